/- impl.optionsOf, walked. -/
import Derived.Test.YtacndeejapfkiaaDoorHandC
set_option linter.unusedVariables false
set_option linter.unusedSimpArgs false
namespace Go.Proofs.YtacndeejapfkiaaDoor.HandD
open Go.RowKit Go.Proofs.YtacndeejapfkiaaDoorW.PrintWords Go.Proofs.YtacndeejapfkiaaDoorW.PrintLast Go.Proofs.YtacndeejapfkiaaDoorW.PrintMore Go.Proofs.YtacndeejapfkiaaDoor.QAll Txt Ptr SepK HandA HandB HandC

theorem info81 : (Tryd.prog.info? 81).map (fun i => (i.zero, i.size, i.bytes)) = some (some (.pointer none), 1, 8) := by kernel_rfl
theorem get42 (l : List S42) (k : Nat) (h : k < l.length) : l[k]? = some (rd_T42 l (k : Int)) := by
  unfold rd_T42
  rw [Int.toNat_natCast]
  exact getD_at l _ k h
theorem newO {W : World} {base : Nat} (x : S42) (hB : base ≤ W.heap.size) : kO.M (W.alloc (.cells #[.string x.f0, .string x.f1] 82)) base (fun j => W.heap.size ≤ j) x [.pointer (some ⟨W.heap.size, 0, none⟩)] :=
  ptr_new (d := k42) (cells := #[.string x.f0, .string x.f1]) (k42_mkM W base _ x) hB (Nat.le_refl _)
theorem neO {α : Type} {d : Kd α} {e : Nat} {W : World} {V : Value} {base : Nat} {xs : List α} (h : d.R e W base (fun _ => True) V xs) : ∀ j, W.heap.size ≤ j → True ∧ some j ≠ V.ownBlock := by
  intro j hj
  refine ⟨trivial, fun e => ?_⟩
  obtain ⟨inner, ho⟩ := Kd.R_own h
  have := own_lt ho j e.symm
  omega

set_option maxHeartbeats 4000000 in
set_option maxRecDepth 100000 in
theorem optionsOf (A : Option Addr) (c : Nat) (l : List S42) (w : World) (hC : Kd.C k42 w A l.length l) (hc : l.length ≤ c) (hl : l.length ≤ 1001) :
    Calls Tryd.prog 35 #[.slice A l.length c] w fun e w' => ∃ v, e = .returned v ∧ kO.R 81 w' w.heap.size (fun _ => True) v l ∧ Below w.heap.size w w' := by
  have hu42 := Tryd.underlying42
  have HC := Aside0.mk hC
  have HL := Aside0.mk hl
  clear hC hl
  go_enter Tryd.func35, Tryd.ntmps35
  go_wp2
  go_loopg [3, 8] l.length (fun gk v3 v8 w' => ∃ (k : Nat) (V : Value), v3 = V ∧ v8 = .int .i64 (k : Int) ∧ Aside0 (k + gk = l.length) ∧ Aside0 (Below w.heap.size w w') ∧ Aside0 (kO.R 81 w' w.heap.size (fun _ => True) V (l.take k)))
  case atStart => exact ⟨0, _, rfl, rfl, ⟨by omega⟩, ⟨Below.refl _ _⟩, ⟨Kd.R_nil _ _ _ _ _⟩⟩
  case round =>
    obtain ⟨k, V, hV, rfl, HK, HB, HR⟩ := hrel
    replace hV := hV.symm
    subst hV
    by_cases hlt : k < l.length
    rotate_left
    · have hkn : k = l.length := by have := HK.out; omega
      have hR := HR.out
      rw [hkn, List.take_length] at hR
      have HR2 := Aside0.mk hR
      clear hR
      go_wp2
      go_ret
      exact ⟨_, rfl, HR2.out, HB.out⟩
    obtain ⟨g0, rfl⟩ : ∃ m, gk = m + 1 := ⟨gk - 1, by have := HK.out; omega⟩
    have hk1 : (k : Int) < (l.length : Int) := by omega
    have hk2 : (k : Int) < 1001 := by have := HL.out; omega
    obtain ⟨ad, e, hx0, hx1⟩ := at_T42 (Kd.C_below HC.out HB.out) (k : Int) (by omega) (by omega)
    cases e
    rw [Int.toNat_natCast] at hx0 hx1
    have hgt := get42 l k hlt
    generalize rd_T42 l (k : Int) = x at hx0 hx1 hgt
    have HTK : Aside0 (l.take (k + 1) = l.take k ++ [x]) := ⟨by rw [List.take_add_one, hgt]; rfl⟩
    have HN : Aside0 ((l.take k).length ≤ 1001) := ⟨by rw [List.length_take]; have := HL.out; have := Nat.min_le_right k l.length; omega⟩
    clear hgt
    go_upto_region 5 with fail
    have hF : (wr.alloc (.cells #[.string x.f0, .string x.f1] 42)).heap[wr.heap.size]? = some (.cells #[.string x.f0, .string x.f1] 42 (0, 0)) := blk_new _ _
    have HB5 : Aside0 (Below w.heap.size w (wr.alloc (.cells #[.string x.f0, .string x.f1] 42))) := ⟨below_alloc HB.out _⟩
    have HR5 : Aside0 (kO.R 81 (wr.alloc (.cells #[.string x.f0, .string x.f1] 42)) w.heap.size (fun _ => True) V (l.take k)) := ⟨Kd.R_below HR.out (below_alloc (Below.refl _ _) _)⟩
    clear hx0 hx1
    generalize wr.alloc (.cells #[.string x.f0, .string x.f1] 42) = w5 at hF HB5 HR5 ⊢
    generalize wr.heap.size = gf at hF ⊢
    have hy0 : w5.cell? ⟨gf, 0, none⟩ = some (.string x.f0) := (blk_cell hF 0).trans rfl
    have hy1 : w5.cell? ⟨gf, 1, none⟩ = some (.string x.f1) := (blk_cell hF 1).trans rfl
    clear hF
    go_wp2_with (first
      | ((with_reducible refine gate_builtin (b := .append) (xs := #[.tmp 12, .tmp 19]) rfl ?_); at_builtin; refine Kd.R_append kO (w0 := w) w.heap.size rfl (.tmp 12) (.tmp 19) 66 81 (.pointer none) 8 rfl Tryd.underlying66 info81 rfl (by decide) (by decide) V (l.take k) x [.pointer (some ⟨w5.heap.size, 0, none⟩)] (fun _ => True) (fun j => w5.heap.size ≤ j) rfl ?hx (newO x HB5.out.size) (neO HR5.out) (fun _ _ => trivial) (Kd.R_below HR5.out (below_alloc (Below.refl _ _) _)) (below_alloc HB5.out _) ?hbase ?hlen ?_
         case hx => first | (go_simp; done) | (simp [Act.eval]; done)
         case hbase => exact Nat.le_trans HB5.out.size (by simp)
         case hlen => have := HN.out; omega
         intro v7 w7 ho7 hb7 hg7 hat7
         have HR7 := Aside0.mk ho7
         have HB7 := Aside0.mk hb7
         clear ho7 hb7 hg7 hat7))
    go_roundg g0
    case measure => omega
    case rel => exact ⟨k + 1, v7, rfl, by push_cast; rfl, ⟨by have := HK.out; omega⟩, HB7, ⟨by rw [HTK.out]; exact HR7.out⟩⟩
#print axioms optionsOf
end Go.Proofs.YtacndeejapfkiaaDoor.HandD
