-- WRITTEN BY A PROGRAM OF THIS SESSION, out of the loaded program, with words of the kit
import Derived.Test.YtddnepddilbikaaDoorQAllx0
import Derived.Test.YtddnepddilbikaaDoorExtO
namespace Go.Proofs.YtddnepddilbikaaDoor.QAll
open Go.RowKit Go.Proofs.YtddnepddilbikaaDoorW.PrintWords Go.Proofs.YtddnepddilbikaaDoorW.PrintLast Go.Proofs.YtddnepddilbikaaDoorW.PrintMore
attribute [local go_sem] max2_int min2_int max_two min_two max_three min_three max_four min_four   -- for this text's walks alone
set_option linter.unusedVariables false
set_option linter.unusedSimpArgs false

/-! ### stringslite_IndexByte: function 60 -/
def stringslite_IndexByte.f (a0 : ByteArray) (a1 : Int) : Option (Int) := (bytealg_IndexByteString.f a0 a1).bind fun t215 => (some t215)
set_option maxHeartbeats 8000000 in
set_option maxRecDepth 100000 in
theorem stringslite_IndexByte.calls (a0 : ByteArray) (a1 : Int) (r : Int) (w : World) (h : stringslite_IndexByte.f a0 a1 = some r) :
    Calls Tryd.prog 60 #[.string a0, .int .u8 a1] w fun e w' => e = .returned (.int .i64 r) ∧ Drawn0 w w' := by
  have H : ((bytealg_IndexByteString.f a0 a1).bind fun t215 => (some t215)) = some r := h
  clear h
  replace H := Option.bind_eq_some_iff.mp H
  obtain ⟨t215, A30, H⟩ := H
  replace H : (some t215) = some r := H
  have A3 := Aside0.mk A30
  clear A30
  obtain rfl := Option.some.inj H
  go_enter Tryd.func60, Tryd.ntmps60
  go_wp2_with (first | ((with_reducible refine gate_callee (f := 74) rfl ?_); refine goesV_ (some 7) rfl rfl #[.string a0, .int .u8 a1] rfl (by (try simp only [List.map_toArray, List.map_cons, List.map_nil]); first | done | rfl | (simp only [List.length_drop, List.length_take]; rfl)) (bytealg_IndexByteString.run a0 a1 t215 _ A3.out) ?_))
  go_ret
  exact ⟨by first | rfl | (simp; done) | (simp [*]; done), by repeat (first | exact Drawn0.refl _ | apply Drawn0.step)⟩

/-! ### strings_IndexByte: function 46 -/
def strings_IndexByte.f (a0 : ByteArray) (a1 : Int) : Option (Int) := (stringslite_IndexByte.f a0 a1).bind fun t216 => (some t216)
set_option maxHeartbeats 8000000 in
set_option maxRecDepth 100000 in
theorem strings_IndexByte.calls (a0 : ByteArray) (a1 : Int) (r : Int) (w : World) (h : strings_IndexByte.f a0 a1 = some r) :
    Calls Tryd.prog 46 #[.string a0, .int .u8 a1] w fun e w' => e = .returned (.int .i64 r) ∧ Drawn0 w w' := by
  have H : ((stringslite_IndexByte.f a0 a1).bind fun t216 => (some t216)) = some r := h
  clear h
  replace H := Option.bind_eq_some_iff.mp H
  obtain ⟨t216, A30, H⟩ := H
  replace H : (some t216) = some r := H
  have A3 := Aside0.mk A30
  clear A30
  obtain rfl := Option.some.inj H
  go_enter Tryd.func46, Tryd.ntmps46
  go_wp2_with (first | ((with_reducible refine gate_callee (f := 60) rfl ?_); refine goesL_ (some 7) rfl rfl Tryd.func60 (by kernel_rfl) rfl #[.string a0, .int .u8 a1] rfl (by (try simp only [List.map_toArray, List.map_cons, List.map_nil]); first | done | rfl | (simp only [List.length_drop, List.length_take]; rfl)) ?_; (with_reducible refine (stringslite_IndexByte.calls a0 a1 t216 _ A3.out).mono ?_); rintro e w' ⟨rfl, ⟨nd, rfl⟩⟩; refine ⟨_, rfl, ?_⟩))
  go_ret
  exact ⟨by first | rfl | (simp; done) | (simp [*]; done), by repeat (first | exact Drawn0.refl _ | apply Drawn0.step)⟩

end Go.Proofs.YtddnepddilbikaaDoor.QAll
