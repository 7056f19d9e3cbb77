/- PatchDelta and impl.Patch, walked: at a delta of instructions for its base, and at one for a base of another size. -/
import Derived.Test.YtlboochpbplhlaaDoorHandD
set_option linter.unusedVariables false
set_option linter.unusedSimpArgs false
namespace Go.Proofs.YtlboochpbplhlaaDoor.HandE
open Go.RowKit Go.Proofs.YtlboochpbplhlaaDoorW.PrintWords Go.Proofs.YtlboochpbplhlaaDoor.QAll PureD HandA HandB HandC HandD
open Go.Proofs.YtlboochpbplhlaaDoorW.PrintLast Go.Proofs.YtlboochpbplhlaaDoorW.PrintMore

theorem Sd_of_R {w : World} {base : Nat} {ok : Nat → Prop} {v : Value} {l : List Int} (h : Kd.R (Kd.int .u8) 5 w base ok v l) (hr : ∀ x ∈ l, 0 ≤ x ∧ x ≤ 255) (hl : l.length ≤ 140737488355328) : ∃ A c, v = .slice A l.length c ∧ Sd w w.heap.size A c l := by
  have ho := Kd.own_of_R h
  rcases ho.2 with ⟨rfl, h0⟩ | ⟨g, cap, cur, rfl, hB, hg, h1, h2, h3, h4⟩
  · exact ⟨none, 0, by rw [h0], by omega, hl, hr, fun h => by omega⟩
  · refine ⟨_, cap, rfl, h1, hl, hr, fun hl => ⟨g, 0, rfl, Lib.lt_of_heap hg, fun j x hj => ?_⟩⟩
    have hc := ho.cells (g := g) rfl j (.int .u8 x) (by simp [encs, hj])
    rw [Nat.zero_add, ← add_plain]
    exact hc

/-- The variables that a patch reads. -/
structure Vars (w : World) : Prop where
  t3 : Tab w 3 0 4
  t4 : Tab w 4 4 3
  e0 : ∃ te pe, w.cell? ⟨0, 0, none⟩ = some (.iface te pe)
theorem Vars.below {w W : World} (h : Vars w) (hb : Below w.heap.size w W) : Vars W :=
  ⟨h.t3.below hb, h.t4.below hb, by obtain ⟨te, pe, h1⟩ := h.e0; exact ⟨te, pe, (hb.cell (World.block_lt_of_cell? w _ h1)).trans h1⟩⟩

set_option maxHeartbeats 4000000 in
set_option maxRecDepth 100000 in
theorem patched (src bs : List Int) (is : List Ins) (As Ad : Option Addr) (cs cd : Nat) (w : World) (hV : Vars w) (hS : Sd w w.heap.size As cs src) (hD : Sd w w.heap.size Ad cd (enc7 src.length ++ (enc7 (made src is).length ++ bs))) (h0 : 1 ≤ src.length)
    (hE : Encs src.length is bs) (hne : is ≠ []) (hsrc : src.length ≤ 2147483647) (hmade : (made src is).length ≤ 2147483647) :
    Calls Tryd.prog 19 #[.slice As src.length cs, .slice Ad (enc7 src.length ++ (enc7 (made src is).length ++ bs)).length cd] w fun e w' => ∃ v, e = .returned (.tuple #[v, .nilIface]) ∧ Kd.R (Kd.int .u8) 5 w' w.heap.size (fun _ => True) v (made src is) ∧ Below w.heap.size w w' := by
  have HP := Aside0.mk (patch w.heap.size w.heap.size 0 src bs is As Ad cs cd (w.alloc (.cells #[.slice none 0 0, .int .i64 0, .int .i8 0] 52)) (Nat.le_refl _) (by simp) (heap_alloc_new w _)
    (fun W hb => by
      have hb2 : Below w.heap.size w W := ((Below.refl w.heap.size w).alloc (Nat.le_refl _) _).trans hb
      exact ⟨hV.t3.below hb2, hV.t4.below hb2⟩)
    (hS.below ((Below.refl w.heap.size w).alloc (Nat.le_refl _) _)) (hD.below ((Below.refl w.heap.size w).alloc (Nat.le_refl _) _)) hE hne hsrc hmade)
  have hL2 : 2 ≤ (enc7 src.length ++ (enc7 (made src is).length ++ bs)).length := by have := enc7_pos src.length; have := enc7_pos (made src is).length; rw [List.length_append, List.length_append]; omega
  have hL3 := hD.2.1
  clear hS hD hV hE hne
  generalize (enc7 src.length ++ (enc7 (made src is).length ++ bs)).length = L at *
  generalize hN : src.length = N at *
  clear hN
  have hn0 : ((N : Int) == 0) = false := beq_eq_false_iff_ne.2 (by omega)
  have hl2 : decide ((L : Int) < 2) = false := by simp; omega
  go_enter Tryd.func19, Tryd.ntmps19
  go_wp2_with fail
  (with_reducible refine HP.out.mono ?_)
  rintro e w1 ⟨rfl, hI, hb⟩
  have HB : Aside0 (Below w.heap.size w w1) := ⟨((Below.refl w.heap.size w).alloc (Nat.le_refl _) _).trans hb⟩
  have HY := Aside0.mk (Tryd.Buffer_Bytes w.heap.size w.heap.size _ w1 hI)
  clear hI hb
  go_wp2_with fail
  (with_reducible refine HY.out.mono ?_)
  rintro e w2 ⟨v, rfl, ho, q, rfl⟩
  have HO := Aside0.mk ho
  clear ho
  go_wp2_with fail
  go_ret2
  refine ⟨v, rfl, Kd.R_of_own ?_ (fun _ _ => trivial), pw_below_drewN HB.out q⟩
  have := HO.out
  rw [nums_length] at this
  exact this

set_option maxHeartbeats 4000000 in
set_option maxRecDepth 100000 in
theorem patch_other (B b n : Nat) (src r : List Int) (As Ad : Option Addr) (cs cd : Nat) (w : World) (te : TypeId) (pe : Value) (he : w.cell? ⟨0, 0, none⟩ = some (.iface te pe)) (hD : Sd w B Ad cd (enc7 n ++ r)) (hn : n ≤ 2147483647) (hne : n ≠ src.length) (hsrc : src.length ≤ 2147483647) :
    Calls Tryd.prog 23 #[.pointer (some ⟨b, 0, none⟩), .slice As src.length cs, .slice Ad (enc7 n ++ r).length cd] w fun e w' => e = .returned (.iface te pe) ∧ Below w.heap.size w w' := by
  have HD1 := Aside0.mk (HandA.decode n B (by omega) Ad cd _ w hD)
  have hL3 := hD.2.1
  clear hD
  generalize (enc7 n ++ r).length = L at *
  generalize src.length = N at *
  have hwn : IntKind.u64.wrap (N : Int) = N := wraps_u64 _ (by omega) (by omega)
  have hnn : ((n : Int) != (N : Int)) = true := bne_iff_ne.2 (by omega)
  clear hne
  go_enter Tryd.func23, Tryd.ntmps23
  go_wp2_with fail
  (with_reducible refine HD1.out.mono ?_)
  rintro e w1 ⟨A1, c1, rfl, hS1, q1, rfl⟩
  clear hS1
  go_wp2_with fail
  go_ret
  exact ⟨rfl, pw_below_drewN (Below.refl _ _) _⟩

set_option maxHeartbeats 4000000 in
set_option maxRecDepth 100000 in
theorem patched_other (n : Nat) (src r : List Int) (As Ad : Option Addr) (cs cd : Nat) (w : World) (hV : Vars w) (hD : Sd w w.heap.size Ad cd (enc7 n ++ r)) (hr : 1 ≤ r.length) (hn : n ≤ 2147483647) (hne : n ≠ src.length) (hsrc : src.length ≤ 2147483647) :
    Calls Tryd.prog 19 #[.slice As src.length cs, .slice Ad (enc7 n ++ r).length cd] w fun e w' => (∃ te pe, e = .returned (.tuple #[.slice none 0 0, .iface te pe])) ∧ Below w.heap.size w w' := by
  obtain ⟨te, pe, he⟩ := hV.e0
  have he2 : (w.alloc (.cells #[.slice none 0 0, .int .i64 0, .int .i8 0] 52)).cell? ⟨0, 0, none⟩ = some (.iface te pe) := pw_cell_below ((Below.refl w.heap.size w).alloc (Nat.le_refl _) _) he
  have HP := Aside0.mk (patch_other w.heap.size w.heap.size n src r As Ad cs cd (w.alloc (.cells #[.slice none 0 0, .int .i64 0, .int .i8 0] 52)) te pe he2 (hD.below ((Below.refl w.heap.size w).alloc (Nat.le_refl _) _)) hn hne hsrc)
  have hL2 : 2 ≤ (enc7 n ++ r).length := by have := enc7_pos n; rw [List.length_append]; omega
  have hL3 := hD.2.1
  clear hD hV hne he2
  generalize (enc7 n ++ r).length = L at *
  generalize hN : src.length = N at *
  clear hN
  have hl2 : decide ((L : Int) < 2) = false := by simp; omega
  by_cases h0 : N = 0
  · subst h0
    go_enter Tryd.func19, Tryd.ntmps19
    go_wp2_with fail
    go_quiet (fail)
    go_wp2_with fail
    go_ret2
    exact ⟨⟨te, pe, rfl⟩, pw_below_drewN (Below.refl _ _) _⟩
  · have hn0 : ((N : Int) == 0) = false := beq_eq_false_iff_ne.2 (by omega)
    go_enter Tryd.func19, Tryd.ntmps19
    go_wp2_with fail
    (with_reducible refine HP.out.mono ?_)
    rintro e w1 ⟨rfl, hb⟩
    have HB : Aside0 (Below w.heap.size w w1) := ⟨below_step ((Below.refl w.heap.size w).alloc (Nat.le_refl _) _) hb⟩
    clear hb
    go_wp2_with fail
    go_ret2
    exact ⟨⟨te, pe, rfl⟩, HB.out⟩
end Go.Proofs.YtlboochpbplhlaaDoor.HandE
