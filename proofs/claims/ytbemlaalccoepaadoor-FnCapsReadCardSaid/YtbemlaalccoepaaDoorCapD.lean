/- capability.List: validate, walked where a capability is good. -/
import Derived.Test.YtbemlaalccoepaaDoorCapC
set_option linter.unusedVariables false
set_option linter.unusedSimpArgs false
namespace Go.Proofs.YtbemlaalccoepaaDoor.CapD
open Go.RowKit Go.Proofs.YtbemlaalccoepaaDoorW.PrintWords Go.Proofs.YtbemlaalccoepaaDoorW.PrintLast Go.Proofs.YtbemlaalccoepaaDoorW.PrintMore Go.Proofs.YtbemlaalccoepaaDoor.QAll Txt SMap CapA Ptr CapB CapC

/-- A capability that Add takes. -/
structure OkCap (c : ByteArray) (l : List ByteArray) : Prop where
  known : isIn knownNames c = true
  req : isIn requiresNames c = true ↔ 0 < l.length
  mul : isIn multipleNames c = true ∨ l.length ≤ 1
  pos : ∀ v ∈ l, 0 < v.size
  len : l.length ≤ 1000
set_option maxHeartbeats 4000000 in
set_option maxRecDepth 100000 in
theorem validate (lv : Value) (c : ByteArray) (A : Option Addr) (cp : Nat) (l : List ByteArray) (w : World) (hC : Kd.string.C w A l.length l) (ho : OkCap c l) :
    Calls Tryd.prog 43 #[lv, .string c, .slice A l.length cp] w fun e w' => e = .returned .nilIface ∧ Below w.heap.size w w' := by
  have HC := Aside0.mk hC
  have HO := Aside0.mk ho
  have HK : Aside0 (∀ W, Calls Tryd.prog 45 #[.string c] W fun e w' => e = .returned (.bool true) ∧ Below W.heap.size W w') := ⟨fun W => by have := known c W; rwa [ho.known] at this⟩
  have HN : Aside0 (∀ W, Below w.heap.size w W → Calls Tryd.prog 57 #[lv, .slice A l.length cp] W fun e w' => e = .returned .nilIface ∧ w' = W) := ⟨fun W hb => noEmpty lv A cp l W (Kd.C_below hC hb) ho.pos ho.len⟩
  clear hC
  by_cases q : 0 < l.length
  · have HQ : Aside0 (∀ W, Calls Tryd.prog 58 #[.string c] W fun e w' => e = .returned (.bool true) ∧ Below W.heap.size W w') := ⟨fun W => by have := requires c W; rwa [ho.req.2 q] at this⟩
    have e1 : ((l.length : Int) == 0) = false := by rw [beq_eq_false_iff_ne]; omega
    have e2 : ¬ (l.length : Int) = 0 := by omega
    by_cases m : isIn multipleNames c = true
    · have HM : Aside0 (∀ W, Calls Tryd.prog 46 #[.string c] W fun e w' => e = .returned (.bool true) ∧ Below W.heap.size W w') := ⟨fun W => by have := multiple c W; rwa [m] at this⟩
      clear m q ho
      go_enter Tryd.func43, Tryd.ntmps43
      go_wp2_with (first
        | (go_at_call 45; (with_reducible refine (HK.out _).mono ?_); rintro e w1 ⟨rfl, hb⟩; have HB := Aside0.mk hb; clear hb)
        | (go_at_call 58; (with_reducible refine (HQ.out _).mono ?_); rintro e w2 ⟨rfl, hb⟩; replace HB := Aside0.mk (below_step HB.out hb); clear hb)
        | (go_at_call 46; (with_reducible refine (HM.out _).mono ?_); rintro e w2 ⟨rfl, hb⟩; replace HB := Aside0.mk (below_step HB.out hb); clear hb)
        | (go_at_call 57; (with_reducible refine (HN.out _ HB.out).mono ?_); rintro e w3 ⟨rfl, hw⟩; replace hw := hw.symm; subst hw))
      go_ret
      exact ⟨rfl, HB.out⟩
    · have HM : Aside0 (∀ W, Calls Tryd.prog 46 #[.string c] W fun e w' => e = .returned (.bool false) ∧ Below W.heap.size W w') := ⟨fun W => by have := multiple c W; rwa [show isIn multipleNames c = false by simpa using m] at this⟩
      have hl1 : l.length = 1 := by have := ho.mul.resolve_left m; omega
      have e3 : ¬ (1 : Int) < (l.length : Int) := by omega
      have e4 : decide ((1 : Int) < (l.length : Int)) = false := decide_eq_false e3
      clear m q ho hl1
      go_enter Tryd.func43, Tryd.ntmps43
      go_wp2_with (first
        | (go_at_call 45; (with_reducible refine (HK.out _).mono ?_); rintro e w1 ⟨rfl, hb⟩; have HB := Aside0.mk hb; clear hb)
        | (go_at_call 58; (with_reducible refine (HQ.out _).mono ?_); rintro e w2 ⟨rfl, hb⟩; replace HB := Aside0.mk (below_step HB.out hb); clear hb)
        | (go_at_call 46; (with_reducible refine (HM.out _).mono ?_); rintro e w2 ⟨rfl, hb⟩; replace HB := Aside0.mk (below_step HB.out hb); clear hb)
        | (go_at_call 57; (with_reducible refine (HN.out _ HB.out).mono ?_); rintro e w3 ⟨rfl, hw⟩; replace hw := hw.symm; subst hw))
      go_ret
      exact ⟨rfl, HB.out⟩
  · have HQ : Aside0 (∀ W, Calls Tryd.prog 58 #[.string c] W fun e w' => e = .returned (.bool false) ∧ Below W.heap.size W w') := ⟨fun W => by have := requires c W; rwa [show isIn requiresNames c = false by rw [← Bool.not_eq_true, ho.req]; exact q] at this⟩
    have hl0 : l.length = 0 := by omega
    have hM : ∃ b, isIn multipleNames c = b := ⟨_, rfl⟩
    obtain ⟨b, hb⟩ := hM
    have HM : Aside0 (∀ W, Calls Tryd.prog 46 #[.string c] W fun e w' => e = .returned (.bool b) ∧ Below W.heap.size W w') := ⟨fun W => by have := multiple c W; rwa [hb] at this⟩
    rw [hl0] at HN ⊢
    clear hb hl0 q ho
    cases b
    all_goals
      go_enter Tryd.func43, Tryd.ntmps43
      go_wp2_with (first
        | (go_at_call 45; (with_reducible refine (HK.out _).mono ?_); rintro e w1 ⟨rfl, hb⟩; have HB := Aside0.mk hb; clear hb)
        | (go_at_call 58; (with_reducible refine (HQ.out _).mono ?_); rintro e w2 ⟨rfl, hb⟩; replace HB := Aside0.mk (below_step HB.out hb); clear hb)
        | (go_at_call 46; (with_reducible refine (HM.out _).mono ?_); rintro e w2 ⟨rfl, hb⟩; replace HB := Aside0.mk (below_step HB.out hb); clear hb)
        | (go_at_call 57; (with_reducible refine (HN.out _ HB.out).mono ?_); rintro e w3 ⟨rfl, hw⟩; replace hw := hw.symm; subst hw))
      go_ret
      exact ⟨rfl, HB.out⟩
#print axioms validate
end Go.Proofs.YtbemlaalccoepaaDoor.CapD
