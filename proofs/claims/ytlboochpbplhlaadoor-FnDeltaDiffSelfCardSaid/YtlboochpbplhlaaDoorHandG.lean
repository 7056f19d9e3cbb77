/- impl.Patch's two contracts, and the laws' deltaWorks, walked. -/
import Derived.Test.YtlboochpbplhlaaDoorHandF
import Derived.Lib.SlBytesConst
set_option linter.unusedVariables false
set_option linter.unusedSimpArgs false
namespace Go.Proofs.YtlboochpbplhlaaDoor.HandG
open Go.RowKit Go.Proofs.YtlboochpbplhlaaDoorW.PrintWords Go.Proofs.YtlboochpbplhlaaDoor.QAll PureD HandA HandB HandC HandD HandE HandF
open Go.Proofs.YtlboochpbplhlaaDoorW.PrintLast Go.Proofs.YtlboochpbplhlaaDoorW.PrintMore

theorem patch_good (A0 A1 : Option Addr) (c0 c1 : Nat) (l0 l1 bs : List Int) (is : List Ins) (w : World) (hV : Vars w) (hr0 : Kd.C (Kd.int .u8) w A0 l0.length l0) (hr1 : Kd.C (Kd.int .u8) w A1 l1.length l1)
    (h0 : ∀ x ∈ l0, 0 ≤ x ∧ x ≤ 255) (h1 : ∀ x ∈ l1, 0 ≤ x ∧ x ≤ 255) (hl0 : l0.length ≤ 2147483647) (hl1 : l1.length ≤ 140737488351232) (hp : 1 ≤ l0.length)
    (hm : (made l0 is).length ≤ 2147483647) (hl : l1 = enc7 l0.length ++ (enc7 (made l0 is).length ++ bs)) (hE : Encs l0.length is bs) (hne : is ≠ []) :
    Calls Tryd.prog 11 #[.slice A0 l0.length c0, .slice A1 l1.length c1] w fun e w' => ∃ v, e = .returned (.tuple #[v, .bool true]) ∧ Kd.R (Kd.int .u8) 5 w' w.heap.size (fun _ => True) v (made l0 is) ∧ Below w.heap.size w w' :=
  impl_ok A0 A1 c0 c1 l0 l1 (made l0 is) w hr0 hr1 h0 h1 (by omega) hl1 (fun W As Ad cs cd hb hS hD => by
    subst hl
    exact patched l0 bs is As Ad cs cd W (hV.below hb) hS hD hp hE hne hl0 hm)
theorem patch_bad (A0 A1 : Option Addr) (c0 c1 n : Nat) (l0 l1 r : List Int) (w : World) (hV : Vars w) (hr0 : Kd.C (Kd.int .u8) w A0 l0.length l0) (hr1 : Kd.C (Kd.int .u8) w A1 l1.length l1)
    (h0 : ∀ x ∈ l0, 0 ≤ x ∧ x ≤ 255) (h1 : ∀ x ∈ l1, 0 ≤ x ∧ x ≤ 255) (hl0 : l0.length ≤ 2147483647) (hl1 : l1.length ≤ 140737488351232) (hr : 1 ≤ r.length) (hn : n ≤ 2147483647) (hne : n ≠ l0.length) (hl : l1 = enc7 n ++ r) :
    Calls Tryd.prog 11 #[.slice A0 l0.length c0, .slice A1 l1.length c1] w fun e w' => e = .returned (.tuple #[.slice none 0 0, .bool false]) ∧ Below w.heap.size w w' :=
  impl_bad A0 A1 c0 c1 l0 l1 w hr0 hr1 h0 h1 (by omega) hl1 (fun W As Ad cs cd hb hS hD => by
    subst hl
    exact patched_other n l0 r As Ad cs cd W (hV.below hb) hD hr hn hne hl0)

theorem works_enc : Encs 4 [.copy 0 4, .put [45, 33]] [144, 4, 2, 45, 33] :=
  .cons (i := .copy 0 4) (b := [144, 4]) (.copy 144 0 4 4 [4] (by omega) (fun rest => ⟨[4] ++ rest, by simp [dec, show Nat.testBit 144 0 = false by decide, show Nat.testBit 144 1 = false by decide, show Nat.testBit 144 2 = false by decide, show Nat.testBit 144 3 = false by decide], by simp [dec, show Nat.testBit 144 4 = true by decide, show Nat.testBit 144 5 = false by decide, show Nat.testBit 144 6 = false by decide]⟩) rfl (by omega))
    (.cons (i := .put [45, 33]) (b := [2, 45, 33]) (.put [45, 33] (by simp) (by simp)) .nil)

set_option maxHeartbeats 8000000 in
set_option maxRecDepth 100000 in
theorem works (w : World) (hV : Vars w) : Calls Tryd.prog 10 #[] w fun e w' => e = .returned (.bool true) ∧ Below w.heap.size w w' := by
  have kc := fun (w : World) (C : Array Value) (n c : Nat) => Lib.run_convert_bytes_const (P := Tryd.prog) w 22 5 C n c Tryd.underlying22 Tryd.underlying5
  have HV := Aside0.mk hV
  have HB := Aside0.mk (Below.refl w.heap.size w)
  clear hV
  go_enter Tryd.func10, Tryd.ntmps10
  go_wp2_with (first
    | ((with_reducible refine gate_dst (N := 6) rfl ?_); refine Kd.R_lit (Kd.int .u8) _ 5 ?hg (N := 6) ?hd (xs := ([4, 6, 144, 4, 2, 45, 33] : List Int)) (inner := [.int .u8 4, .int .u8 6, .int .u8 144, .int .u8 4, .int .u8 2, .int .u8 45, .int .u8 33]) (ok := fun _ => True) (okp := fun _ => True) ?hr ?hp (fun _ hk => hk) trivial (Below.refl _ _) (Nat.le_refl _) (by simp) ?_; (case hd => rfl); (case hg => rfl); (case hr => first | (go_simp; done) | (go_simp; rfl)); (case hp => exact Kd.reps_scalar [4, 6, 144, 4, 2, 45, 33]); intro v12 w12 ho hb hg_ hnew_; have HO12 := Aside0.mk ho; have HB12 := Aside0.mk hb; clear hg_ hnew_ ho hb))
  obtain ⟨A12, c12, rfl, hc12, hr12⟩ := Kd.R_reads HO12.out
  have hbA : Below w.heap.size w (w.alloc (.cells #[.int .u8 98, .int .u8 97, .int .u8 115, .int .u8 101] 5 (4, 5))) := (Below.refl w.heap.size w).alloc (Nat.le_refl _) _
  have HB2 : Aside0 (Below w.heap.size w w12) := ⟨below_step hbA HB12.out⟩
  have hc4 : Kd.C (Kd.int .u8) (w.alloc (.cells #[.int .u8 98, .int .u8 97, .int .u8 115, .int .u8 101] 5 (4, 5))) (some ⟨w.heap.size, 0, none⟩) ([98, 97, 115, 101] : List Int).length [98, 97, 115, 101] :=
    ⟨rfl, by simp, fun _ => ⟨_, rfl, fun j p hj => ⟨[.int .u8 p], rfl, rfl, fun i u hu => by
      obtain rfl : i = 0 := by have := (List.getElem?_eq_some_iff.1 hu).1; simp at this; exact this
      simp only [List.getElem?_cons_zero, Option.some.injEq] at hu
      subst hu
      show World.cell? _ ((⟨w.heap.size, 0, none⟩ : Addr).add (j * 1 + 0)) = _
      rw [add_plain, Lib.cell_of_heap (heap_alloc_new w _)]
      rcases j with _ | _ | _ | _ | j
      · simp at hj; subst hj; rfl
      · simp at hj; subst hj; rfl
      · simp at hj; subst hj; rfl
      · simp at hj; subst hj; rfl
      · simp at hj⟩⟩⟩
  have hr9 := Kd.C_below hc4 HB12.out
  have hm : made ([98, 97, 115, 101] : List Int) [.copy 0 4, .put [45, 33]] = [98, 97, 115, 101, 45, 33] := rfl
  have he : ([4, 6, 144, 4, 2, 45, 33] : List Int) = enc7 ([98, 97, 115, 101] : List Int).length ++ (enc7 (made ([98, 97, 115, 101] : List Int) [.copy 0 4, .put [45, 33]]).length ++ [144, 4, 2, 45, 33]) := by
    rw [hm, enc7_small (by simp), enc7_small (by simp)]
    rfl
  have HP := Aside0.mk (patch_good (some ⟨w.heap.size, 0, none⟩) A12 4 c12 [98, 97, 115, 101] [4, 6, 144, 4, 2, 45, 33] [144, 4, 2, 45, 33] [.copy 0 4, .put [45, 33]] w12 (HV.out.below HB2.out) hr9 hr12
    (by simp) (by simp) (by simp) (by simp) (by simp) (by rw [hm]; simp) he works_enc (by simp))
  clear hr9 hc4 hr12 he hbA hc12
  refine calls_of_args (args' := #[.slice (some ⟨w.heap.size, 0, none⟩) ([98, 97, 115, 101] : List Int).length 4, .slice A12 ([4, 6, 144, 4, 2, 45, 33] : List Int).length c12]) rfl ?_
  (with_reducible refine HP.out.mono ?_)
  rintro e w13 ⟨v, rfl, hR, hb⟩
  have HB3 : Aside0 (Below w.heap.size w w13) := ⟨below_step HB2.out hb⟩
  rw [hm] at hR
  obtain ⟨Av, cv, rfl, hcv, hrv⟩ := Kd.R_reads hR
  have hconv : (convert 22 9 (.slice Av 6 cv)).run Tryd.prog w13 = .ok (.string (strOfNums [98, 97, 115, 101, 45, 33])) w13 := string_of_reads (P := Tryd.prog) (c := cv) (dst := 9) Tryd.underlying22 Tryd.underlying5 Tryd.underlying9 (Kd.reads_of_C hrv)
  have hs : strOfNums [98, 97, 115, 101, 45, 33] = (⟨#[98, 97, 115, 101, 45, 33]⟩ : ByteArray) := rfl
  rw [hs] at hconv
  clear hrv hR hb hm hs
  go_wp2
  go_ret
  exact ⟨rfl, by first | exact HB3.out | exact below_drew HB3.out | exact pw_below_drewN HB3.out _⟩
end Go.Proofs.YtlboochpbplhlaaDoor.HandG
