/- Hash.String and impl.HashOf walked. -/
import Derived.Test.YthpoiceceogdhaaDoorHshD
set_option linter.unusedVariables false
set_option linter.unusedSimpArgs false
namespace Go.Proofs.YthpoiceceogdhaaDoor.HshE
open Go.RowKit Go.Proofs.YthpoiceceogdhaaDoorW.PrintWords Go.Proofs.YthpoiceceogdhaaDoor.QAll Ptr ShaA ShaP ShaB ShaC ShaD ShaE ShaF HshA HshB HshC HshD

/-- Bytes in base 16. -/
def hexOf (l : List Nat) : ByteArray := ⟨(Lib.Hx.encode (l.map (fun x => UInt8.ofNat x))).toArray⟩
set_option maxHeartbeats 8000000 in
set_option maxRecDepth 100000 in
theorem hashStr (l : List Nat) (hl : l.length = 20) (hm : ∀ x ∈ l, x < 256) (w : World) : Calls Tryd.prog 11 #[.agg (cells l)] w fun e w' => e = .returned (.string (hexOf l)) ∧ Below w.heap.size w w' := by
  have hsrc : ∀ i (h : i < (l.map (fun x => UInt8.ofNat x)).length), (w.alloc (.cells (cells l) 32)).cell? ⟨w.heap.size, 0 + i, none⟩ = some (.int .u8 (((l.map (fun x => UInt8.ofNat x))[i]'h).toNat : Int)) := fun i h => by
    have hi : i < l.length := by simpa using h
    rw [Lib.cell_of_heap (heap_alloc_new w _)]
    have hx := hm _ (List.getElem_mem hi)
    simp [cells, hi, vB]
    omega
  have HC : Aside0 (Calls Tryd.prog 16 #[.slice (some ⟨w.heap.size, 0, none⟩) 20 20] (w.alloc (.cells (cells l) 32)) _) := ⟨by
    have := Tryd.hex_EncodeToString_bytes w.heap.size 0 20 (l.map (fun x => UInt8.ofNat x)) (w.alloc (.cells (cells l) 32)) hsrc (by show _ < (w.heap.push _).size; simp) (by rw [List.length_map, hl]; decide)
    rw [List.length_map, hl] at this
    exact this⟩
  clear hsrc hm hl
  generalize cells l = C at HC ⊢
  go_enter Tryd.func11, Tryd.ntmps11
  go_wp2_with (first
    | (go_at_call 16
       (with_reducible refine HC.out.mono ?_)
       rintro e w2 ⟨rfl, hb⟩
       have HB := Aside0.mk hb
       clear hb)
    | fail)
  go_ret
  exact ⟨rfl, (below_alloc (Below.refl _ _) _).trans (HB.out.mono (by show _ ≤ (w.heap.push _).size; simp))⟩

set_option maxHeartbeats 8000000 in
set_option maxRecDepth 100000 in
theorem hashOf (t : Nat) (h0 : 1 ≤ t) (h1 : t ≤ 4) (A : Option Addr) (c : Nat) (l : List Nat) (w : World) (hR : Rd8 w (.slice A l.length c) l) (hl : l.length ≤ 1000000) (htab : ∀ W, Below w.heap.size w W → Lib.TabIs Tryd.prog W "internal/strconv.uint64pow10" .u64 Lib.pow10Tab) :
    Calls Tryd.prog 6 #[.int .i64 (t : Int), .slice A l.length c] w fun e w' => e = .returned (.string (hexOf (sha1 (hd (nm t) l.length ++ l)))) ∧ Below w.heap.size w w' := by
  obtain ⟨L, hL⟩ : ∃ L, L = l.length := ⟨_, rfl⟩
  have HL := Aside0.mk hL
  have HMM := Aside0.mk hR.1
  rw [← hL] at hR hl ⊢
  have HR0 : Aside0 (∀ o, Rd8 (w.alloc o) (.slice A L c) l) := ⟨fun o => hR.below (below_alloc (Below.refl _ _) o)⟩
  have HS0 : Aside0 (∀ o, w.heap.size ≤ (w.alloc o).heap.size) := ⟨fun o => by show _ ≤ (w.heap.push _).size; simp⟩
  have HTAB := Aside0.mk htab
  have HT := Aside0.mk (⟨h0, h1⟩ : 1 ≤ t ∧ t ≤ 4)
  have HLE := Aside0.mk hl
  have ht8 : IntKind.i8.wrap (t : Int) = (t : Int) := by simp [IntKind.wrap, IntKind.bits, IntKind.signed]; omega
  clear hL hR htab
  go_enter Tryd.func6, Tryd.ntmps6
  go_wp2_with (first
    | ((with_reducible refine gate_dst (N := 9) rfl ?_)
       refine appr_op rfl (.tmp 7) (.tmp 8) rfl _ w.heap.size (.slice (some ⟨w.heap.size, 0, none⟩) 0 0) (.slice A L c) [] l rfl rfl (BQ.empty w w.heap.size (Nat.le_refl _)) (HR0.out _) (by rw [← HL.out]; simp only [List.length_nil]; omega) (HS0.out _) ?_
       intro v2 w2 hq hg hat
       rw [List.nil_append] at hq
       obtain ⟨A2, c2, rfl, hc2⟩ := hq.form
       have HB : Aside0 (Below w.heap.size w w2) := ⟨(below_alloc (Below.refl _ _) _).grown hg (HS0.out _) (fun k hk => by have h9 : some w.heap.size = some k := hk; injection h9 with h9; omega)⟩
       have HCP : Aside0 (Calls Tryd.prog 10 #[.int .i8 (t : Int), .slice A2 L c2] w2 _) := ⟨by
         have := compute t HT.out.1 HT.out.2 A2 c2 l w2 (q_lower hq (Nat.zero_le _)) HMM.out (by rw [← HL.out]; exact HLE.out) (fun W hW => HTAB.out W (HB.out.trans (hW.mono HB.out.size)))
         rw [← HL.out] at this
         exact this⟩
       rw [← HL.out]
       clear hq hg hat hc2)
    | (go_at_call 10
       (with_reducible refine HCP.out.mono ?_)
       rintro e w3 ⟨rfl, hb3⟩
       have HB3 : Aside0 (Below w.heap.size w w3) := ⟨HB.out.trans (hb3.mono HB.out.size)⟩
       have HST : Aside0 (Calls Tryd.prog 11 #[.agg (cells (sha1 (hd (nm t) L ++ l)))] w3 _) := ⟨hashStr _ (sha1_len _) (sha1_lt _) w3⟩
       clear hb3)
    | (go_at_call 11
       (with_reducible refine HST.out.mono ?_)
       rintro e w4 ⟨rfl, hb4⟩
       have HB4 : Aside0 (Below w.heap.size w w4) := ⟨HB3.out.trans (hb4.mono HB3.out.size)⟩
       clear hb4)
    | fail)
  go_ret
  exact ⟨rfl, HB4.out⟩
end Go.Proofs.YthpoiceceogdhaaDoor.HshE
