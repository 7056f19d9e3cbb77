/- laws.pktWorks, walked. -/
import Derived.Test.YtponeoodgfgejaaDoorHandJ
set_option linter.unusedVariables false
set_option linter.unusedSimpArgs false
namespace Go.Proofs.YtponeoodgfgejaaDoor.HandN
open Go.RowKit Go.Proofs.YtponeoodgfgejaaDoorW.PrintWords Go.Proofs.YtponeoodgfgejaaDoorW.PrintLast Go.Proofs.YtponeoodgfgejaaDoorW.PrintMore Go.Proofs.YtponeoodgfgejaaDoor.QAll Txt PureA HandC HandD HandF PureP HandJ

theorem one_good : ∀ p ∈ ([[97, 10]] : List (List Int)), PureP.Good p := by
  intro p hp
  rw [List.mem_singleton.1 hp]
  exact ⟨by decide, by decide +kernel⟩
theorem one_enc : enc [[97, 10]] = [48, 48, 48, 54, 97, 10] := by decide
theorem one_parse : parse [[97, 10]] ([48, 48, 48, 54, 97, 10] : List Int).length = ([[97, 10]], true) := by decide
theorem one_word : strOfNums [97, 10] = (⟨#[97, 10]⟩ : ByteArray) := by decide +kernel
set_option maxHeartbeats 8000000 in
set_option maxRecDepth 100000 in
theorem works (aE aU aI : Addr) (w : World) (hs : Sent w aE aU aI) : Calls Tryd.prog 7 #[] w fun e w' => e = .returned (.bool true) ∧ Below w.heap.size w w' := by
  have kc := fun (w : World) (C : Array Value) (n c : Nat) => Lib.run_convert_bytes_const (P := Tryd.prog) w 25 5 C n c Tryd.underlying25 Tryd.underlying5
  have HS := Aside0.mk hs
  clear hs
  have HR : Aside0 (∀ fr, Calls Tryd.prog 17 #[.slice (some ⟨w.heap.size, 0, none⟩) 6 6] (w.alloc (.cells #[.int .u8 48, .int .u8 48, .int .u8 48, .int .u8 54, .int .u8 97, .int .u8 10] 5 fr)) fun e w' => ∃ v, e = .returned (.tuple #[v, .bool true]) ∧ Kd.R HandJ.KL 25 w' (w.alloc (.cells #[.int .u8 48, .int .u8 48, .int .u8 48, .int .u8 54, .int .u8 97, .int .u8 10] 5 fr)).heap.size (fun _ => True) v [[97, 10]] ∧ Below (w.alloc (.cells #[.int .u8 48, .int .u8 48, .int .u8 48, .int .u8 54, .int .u8 97, .int .u8 10] 5 fr)).heap.size (w.alloc (.cells #[.int .u8 48, .int .u8 48, .int .u8 48, .int .u8 54, .int .u8 97, .int .u8 10] 5 fr)) w') := ⟨fun fr => by
    have hC : Kd.C (Kd.int .u8) (w.alloc (.cells #[.int .u8 48, .int .u8 48, .int .u8 48, .int .u8 54, .int .u8 97, .int .u8 10] 5 fr)) (some ⟨w.heap.size, 0, none⟩) 6 [48, 48, 48, 54, 97, 10] := C_blk (xs := [48, 48, 48, 54, 97, 10]) (cur := [.int .u8 48, .int .u8 48, .int .u8 48, .int .u8 54, .int .u8 97, .int .u8 10]) (blk_new _ _) (by decide) (fun j x hx => by
      match j, hx with
      | 0, hx => cases hx; rfl
      | 1, hx => cases hx; rfl
      | 2, hx => cases hx; rfl
      | 3, hx => cases hx; rfl
      | 4, hx => cases hx; rfl
      | 5, hx => cases hx; rfl
      | j + 6, hx => simp at hx)
    have h := HandJ.readLines (some ⟨w.heap.size, 0, none⟩) 6 [48, 48, 48, 54, 97, 10] [[97, 10]] aE aU aI _ (HS.out.below (below_alloc (Below.refl _ _) _)) hC (by decide) one_good (by decide) (by decide) (by decide)
    rw [one_parse] at h
    exact h⟩
  go_enter Tryd.func7, Tryd.ntmps7
  go_upto_region 2 with (first | (go_at_call 17; (with_reducible refine (HR.out _).mono ?_); rintro e w3 ⟨v3, rfl, hr3, hb3⟩; have HB3 : Aside0 (Below w.heap.size w w3) := ⟨(below_alloc (Below.refl _ _) _).trans (hb3.mono (below_alloc (Below.refl _ _) _ : Below w.heap.size w _).size)⟩; have HR3 := Aside0.mk hr3; clear hr3 hb3))
  obtain ⟨A3, c3, rfl, _, hC3⟩ := Kd.R_reads HR3.out
  obtain ⟨ad, B0, d0, rfl, hx, _, hc⟩ := atR hC3 0 (by decide) (by decide)
  have ha0 : ad.add 0 = ad := by unfold Addr.add; split <;> simp_all
  have hx0 : w3.cell? ad = some (.slice B0 2 d0) := by
    have h2 : w3.cell? (ad.add 0) = some (.slice B0 2 d0) := hx
    rw [ha0] at h2
    exact h2
  clear ha0
  have hcv : (convert 25 9 (.slice B0 2 d0)).run Tryd.prog w3 = .ok (.string (⟨#[97, 10]⟩ : ByteArray)) w3 := by
    rw [← one_word]
    exact Kd.C_string (P := Tryd.prog) (A := B0) (c := d0) (xs := [97, 10]) Tryd.underlying25 Tryd.underlying5 Tryd.underlying9 hc
  clear hC3 hc hx
  go_wp2
  go_ret
  exact ⟨rfl, HB3.out⟩
#print axioms works
end Go.Proofs.YtponeoodgfgejaaDoor.HandN
