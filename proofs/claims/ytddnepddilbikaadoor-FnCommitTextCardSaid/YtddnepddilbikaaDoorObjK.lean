/- The structs of the laws' arguments, as kinds. -/
import Derived.Test.YtddnepddilbikaaDoorWWords
namespace Go.Proofs.YtddnepddilbikaaDoor.ObjK
open Go.RowKit Go.Proofs.YtddnepddilbikaaDoorW.PrintWords

structure S30 where
  f0 : ByteArray
  f1 : ByteArray
  f2 : Int
  f3 : Int
def k30 : Kd S30 := Kd.iso (Kd.pair Kd.string (Kd.pair Kd.string (Kd.pair (Kd.int .i64) (Kd.int .i64)))) (fun x : S30 => (x.f0, x.f1, x.f2, x.f3))
theorem k30_open {w : World} {x : S30} {cs : List Value} (h : k30.K w x cs) : cs = [.string x.f0, .string x.f1, .int .i64 x.f2, .int .i64 x.f3] := by
  obtain ⟨_, _, rfl, rfl, ⟨_, _, rfl, rfl, ⟨_, _, rfl, rfl, rfl⟩⟩⟩ := h
  rfl
structure S32 where
  f0 : ByteArray
  f1 : Int
  f2 : ByteArray
  f3 : S30
  f4 : ByteArray
  f5 : ByteArray
def k32 : Kd S32 := Kd.iso (Kd.pair Kd.string (Kd.pair (Kd.int .i64) (Kd.pair Kd.string (Kd.pair k30 (Kd.pair Kd.string Kd.string))))) (fun x : S32 => (x.f0, x.f1, x.f2, x.f3, x.f4, x.f5))
theorem k32_open {w : World} {x : S32} {cs : List Value} (h : k32.K w x cs) : cs = [.string x.f0, .int .i64 x.f1, .string x.f2, .string x.f3.f0, .string x.f3.f1, .int .i64 x.f3.f2, .int .i64 x.f3.f3, .string x.f4, .string x.f5] := by
  obtain ⟨_, _, rfl, rfl, ⟨_, _, rfl, rfl, ⟨_, _, rfl, rfl, ⟨_, _, rfl, hS, ⟨_, _, rfl, rfl, rfl⟩⟩⟩⟩⟩ := h
  obtain rfl := k30_open hS
  rfl
end Go.Proofs.YtddnepddilbikaaDoor.ObjK
namespace Go.Proofs.YtddnepddilbikaaDoor.ObjK
open Go.RowKit Go.Proofs.YtddnepddilbikaaDoorW.PrintWords
structure S38 where
  f0 : ByteArray
  f1 : List ByteArray
  f2 : S30
  f3 : S30
  f4 : ByteArray
  f5 : ByteArray
  f6 : ByteArray
  f7 : ByteArray
def k38 : Kd S38 := Kd.iso (Kd.pair Kd.string (Kd.pair (Kd.slice 9 Kd.string) (Kd.pair k30 (Kd.pair k30 (Kd.pair Kd.string (Kd.pair Kd.string (Kd.pair Kd.string Kd.string))))))) (fun x : S38 => (x.f0, x.f1, x.f2, x.f3, x.f4, x.f5, x.f6, x.f7))
theorem k38_open {w : World} {x : S38} {cs : List Value} (h : k38.K w x cs) : ∃ A c, cs = [.string x.f0, .slice A x.f1.length c, .string x.f2.f0, .string x.f2.f1, .int .i64 x.f2.f2, .int .i64 x.f2.f3, .string x.f3.f0, .string x.f3.f1, .int .i64 x.f3.f2, .int .i64 x.f3.f3, .string x.f4, .string x.f5, .string x.f6, .string x.f7] ∧ x.f1.length ≤ c ∧ Kd.C Kd.string w A x.f1.length x.f1 := by
  obtain ⟨_, _, rfl, rfl, ⟨_, _, rfl, ⟨A, c, rfl, hc, hC⟩, ⟨_, _, rfl, hS, ⟨_, _, rfl, hT, ⟨_, _, rfl, rfl, ⟨_, _, rfl, rfl, ⟨_, _, rfl, rfl, rfl⟩⟩⟩⟩⟩⟩⟩ := h
  obtain rfl := k30_open hS
  obtain rfl := k30_open hT
  exact ⟨A, c, rfl, hc, hC⟩
end Go.Proofs.YtddnepddilbikaaDoor.ObjK
