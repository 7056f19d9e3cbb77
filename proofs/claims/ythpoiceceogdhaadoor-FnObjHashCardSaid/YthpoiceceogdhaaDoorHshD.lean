/- Hasher.Sum, ComputeHash, Hash.String, impl.HashOf walked. -/
import Derived.Test.YthpoiceceogdhaaDoorHshC
import Derived.Test.YthpoiceceogdhaaDoorPtr
import Derived.Laws.CopyRow
set_option linter.unusedVariables false
set_option linter.unusedSimpArgs false
namespace Go.Proofs.YthpoiceceogdhaaDoor.HshD
open Go.RowKit Go.Proofs.YthpoiceceogdhaaDoorW.PrintWords Go.Proofs.YthpoiceceogdhaaDoor.QAll Ptr ShaA ShaP ShaB ShaC ShaD ShaE ShaF HshA HshB HshC

theorem info32 : (Tryd.prog.info? 32).map (·.size) = some 20 := by kernel_rfl
theorem info5sz : (Tryd.prog.info? 5).map (·.size) = some 1 := by kernel_rfl
/-- The cells of a hash. -/
def cells (l : List Nat) : Array Value := (l.map vB).toArray
theorem cells_size {l : List Nat} (h : l.length = 20) : (cells l).size = 20 := by simp [cells, h]
theorem vB_one (l : List Nat) : ∀ v ∈ l.map vB, v.oneCell' = true := fun v hv => by obtain ⟨x, _, rfl⟩ := List.mem_map.1 hv; rfl
theorem copy20 (W : World) (b g o c : Nat) (Z : Array Value) (l : List Nat) (hl : l.length = 20) (hZ : Z.size = 20) (hb : W.heap[b]? = some (.cells Z 32 (0, 0))) (h8 : At8 W g o l) :
    (Builtin.copy_ #[22, 22] 3 #[.slice (some ⟨b, 0, none⟩) 20 20, .slice (some ⟨g, o, none⟩) 20 c]).run Tryd.prog W = .ok (.int .i64 20) (W.setRow b (cells l)) := by
  have hcp := run_copy_row (P := Tryd.prog) W 22 22 3 5 b 0 20 20 ⟨g, o, none⟩ 20 c Z 32 (l.map vB) und28 info5sz hb (by rw [List.length_map, hl]; decide) (fun j v hv => by rw [Lib.addr_add]; exact at8_range h8 j v hv) (by rw [List.length_map, hl, hZ]; decide) (vB_one l)
  rw [List.length_map, hl] at hcp
  have e : (Z.toList.take 0 ++ l.map vB ++ Z.toList.drop (0 + 20)).toArray = cells l := by
    rw [List.drop_of_length_le (by simp [hZ])]
    simp [cells]
  rw [e] at hcp
  exact hcp
set_option maxHeartbeats 8000000 in
set_option maxRecDepth 100000 in
theorem sumH (hb : Nat) (v : Value) (m : List Nat) (w : World) (h : Hs w hb v m) (hl : m.length ≤ 1000000000000) :
    Calls Tryd.prog 15 #[.agg #[.iface 60 (.pointer (some ⟨hb, 0, none⟩))]] w fun e w' => e = .returned (.agg (cells (sha1 m))) ∧ Below w.heap.size w w' := by
  have hms := fun g W => methodS 192 g W
  have H := Aside0.mk h
  have HL := Aside0.mk hl
  clear h hl
  go_enter Tryd.func15, Tryd.ntmps15
  go_wp2_with fail
  have HBa : Aside0 (Below w.heap.size w ((w.alloc (.cells #[.iface 60 (.pointer (some ⟨hb, 0, none⟩))] 42)).alloc (.cells #[.int .u8 0, .int .u8 0, .int .u8 0, .int .u8 0, .int .u8 0, .int .u8 0, .int .u8 0, .int .u8 0, .int .u8 0, .int .u8 0, .int .u8 0, .int .u8 0, .int .u8 0, .int .u8 0, .int .u8 0, .int .u8 0, .int .u8 0, .int .u8 0, .int .u8 0, .int .u8 0] 32))) := ⟨below_alloc (below_alloc (Below.refl _ _) _) _⟩
  have h1 : ((w.alloc (.cells #[.iface 60 (.pointer (some ⟨hb, 0, none⟩))] 42)).alloc (.cells #[.int .u8 0, .int .u8 0, .int .u8 0, .int .u8 0, .int .u8 0, .int .u8 0, .int .u8 0, .int .u8 0, .int .u8 0, .int .u8 0, .int .u8 0, .int .u8 0, .int .u8 0, .int .u8 0, .int .u8 0, .int .u8 0, .int .u8 0, .int .u8 0, .int .u8 0, .int .u8 0] 32)).heap[w.heap.size]? = some (.cells #[.iface 60 (.pointer (some ⟨hb, 0, none⟩))] 42 (0, 0)) := blk_alloc (heap_alloc_new w _) _
  have h2 : ((w.alloc (.cells #[.iface 60 (.pointer (some ⟨hb, 0, none⟩))] 42)).alloc (.cells #[.int .u8 0, .int .u8 0, .int .u8 0, .int .u8 0, .int .u8 0, .int .u8 0, .int .u8 0, .int .u8 0, .int .u8 0, .int .u8 0, .int .u8 0, .int .u8 0, .int .u8 0, .int .u8 0, .int .u8 0, .int .u8 0, .int .u8 0, .int .u8 0, .int .u8 0, .int .u8 0] 32)).heap[w.heap.size + 1]? = some (.cells #[.int .u8 0, .int .u8 0, .int .u8 0, .int .u8 0, .int .u8 0, .int .u8 0, .int .u8 0, .int .u8 0, .int .u8 0, .int .u8 0, .int .u8 0, .int .u8 0, .int .u8 0, .int .u8 0, .int .u8 0, .int .u8 0, .int .u8 0, .int .u8 0, .int .u8 0, .int .u8 0] 32 (0, 0)) := by
    have := heap_alloc_new (w.alloc (.cells #[.iface 60 (.pointer (some ⟨hb, 0, none⟩))] 42)) (.cells #[.int .u8 0, .int .u8 0, .int .u8 0, .int .u8 0, .int .u8 0, .int .u8 0, .int .u8 0, .int .u8 0, .int .u8 0, .int .u8 0, .int .u8 0, .int .u8 0, .int .u8 0, .int .u8 0, .int .u8 0, .int .u8 0, .int .u8 0, .int .u8 0, .int .u8 0, .int .u8 0] 32)
    rwa [show (w.alloc (.cells #[.iface 60 (.pointer (some ⟨hb, 0, none⟩))] 42)).heap.size = w.heap.size + 1 by show (w.heap.push _).size = _; simp] at this
  generalize ((w.alloc (.cells #[.iface 60 (.pointer (some ⟨hb, 0, none⟩))] 42)).alloc (.cells #[.int .u8 0, .int .u8 0, .int .u8 0, .int .u8 0, .int .u8 0, .int .u8 0, .int .u8 0, .int .u8 0, .int .u8 0, .int .u8 0, .int .u8 0, .int .u8 0, .int .u8 0, .int .u8 0, .int .u8 0, .int .u8 0, .int .u8 0, .int .u8 0, .int .u8 0, .int .u8 0] 32)) = wa at HBa h1 h2 ⊢
  obtain ⟨b2, hb2⟩ : ∃ b2, b2 = w.heap.size + 1 := ⟨_, rfl⟩
  rw [← hb2] at h2
  simp only [← hb2]
  have HB2 : Aside0 (w.heap.size ≤ b2) := ⟨by omega⟩
  clear hb2
  have HH2 := Aside0.mk h2
  have c1 : wa.cell? ⟨w.heap.size, 0, none⟩ = some (.iface 60 (.pointer (some ⟨hb, 0, none⟩))) := (Lib.cell_of_heap h1 0).trans rfl
  have c1d : wa.drew.cell? ⟨w.heap.size, 0, none⟩ = some (.iface 60 (.pointer (some ⟨hb, 0, none⟩))) := (Lib.cell_of_heap h1 0).trans rfl
  have HHd : Aside0 (Hs wa.drew hb v m) := ⟨(H.out.below HBa.out).below (below_drew (Below.refl _ _))⟩
  clear h1 h2
  go_region_law (first
    | (go_simp
       go_at_call 58
       (with_reducible refine (ShaD.sum hb v m _ HHd.out HL.out).mono ?_)
       rintro e w2 ⟨g, o, c, rfl, hge, hlt, h8, hbel⟩
       have k2 : w2.heap[b2]? = some (.cells #[.int .u8 0, .int .u8 0, .int .u8 0, .int .u8 0, .int .u8 0, .int .u8 0, .int .u8 0, .int .u8 0, .int .u8 0, .int .u8 0, .int .u8 0, .int .u8 0, .int .u8 0, .int .u8 0, .int .u8 0, .int .u8 0, .int .u8 0, .int .u8 0, .int .u8 0, .int .u8 0] 32 (0, 0)) := (hbel.block b2 (Lib.lt_of_heap HH2.out)).trans HH2.out
       have hcp := copy20 w2 b2 g o c #[.int .u8 0, .int .u8 0, .int .u8 0, .int .u8 0, .int .u8 0, .int .u8 0, .int .u8 0, .int .u8 0, .int .u8 0, .int .u8 0, .int .u8 0, .int .u8 0, .int .u8 0, .int .u8 0, .int .u8 0, .int .u8 0, .int .u8 0, .int .u8 0, .int .u8 0, .int .u8 0] (sha1 m) (sha1_len m) rfl k2 h8
       have HK2 := Aside0.mk k2
       have HBB : Aside0 (Below w.heap.size w w2) := ⟨HBa.out.trans (((below_drew (Below.refl _ _)).trans hbel).mono HBa.out.size)⟩
       clear hge hlt h8 hbel k2))
  all_goals (
    have hR := setRow_heap _ _ _ (cells (sha1 m)) _ _ HK2.out
    have hW := Aside0.mk (below_setRow HBB.out HB2.out (cells (sha1 m)))
    have HR := Aside0.mk hR
    clear hR
    go_wp2_with fail
    refine bodyPost_ret (results_cell_row rfl _ _ b2 32 (cells (sha1 m)) (0, 0) _ rfl HR.out Tryd.underlying32 rfl (by rw [cells_size (sha1_len m)]; exact info32)) rfl ?_
    exact ⟨rfl, hW.out⟩)
theorem _root_.Go.Proofs.YthpoiceceogdhaaDoor.HshC.Hn.base {w0 w W : World} {hb : Nat} {ks : List (Nat × Array Value × Nat)} {m : List Nat} (h : Hn w W hb ks m) (hb0 : Below w0.heap.size w0 w) : Hn w0 W hb ks m := by
  obtain ⟨v, h1, h2⟩ := h.ex
  exact ⟨⟨v, h1, fun k hk => Nat.le_trans hb0.size (h2 k hk)⟩, hb0.trans (h.bel.mono hb0.size), Nat.le_trans hb0.size h.gh, h.keep⟩
theorem _root_.Go.Proofs.YthpoiceceogdhaaDoor.HshC.Hn.add {w W : World} {hb : Nat} {ks : List (Nat × Array Value × Nat)} {m : List Nat} (h : Hn w W hb ks m) {g t : Nat} {cs : Array Value} (hk : W.heap[g]? = some (.cells cs t (0, 0))) (h1 : t ≠ 62) (h2 : t ≠ 5) : Hn w W hb ((g, cs, t) :: ks) m := by
  refine ⟨h.ex, h.bel, h.gh, fun g' cs' t' hm => ?_⟩
  rcases List.mem_cons.1 hm with e | hm
  · injection e with e1 e2
    injection e2 with e2 e3
    subst e1; subst e2; subst e3
    exact ⟨hk, h1, h2⟩
  · exact h.keep g' cs' t' hm
theorem hwriteAny {w w0 W : World} {hb : Nat} {ks : List (Nat × Array Value × Nat)} {m : List Nat} (h : Hn w W hb ks m) (A : Option Addr) (c : Nat) (l : List Nat) (hQ : BQ w0 0 (.slice A l.length c) l) (hw0 : w0.heap.size ≤ w.heap.size) (hbw : Below w0.heap.size w0 W) (hm : ∀ x ∈ l, x < 256) (hl : m.length + l.length ≤ 1000000000000) :
    Calls Tryd.prog 59 #[.pointer (some ⟨hb, 0, none⟩), .slice A l.length c] W fun e w' => ∃ k : Int, e = .returned (.tuple #[.int .i64 k, .nilIface]) ∧ Hn w w' hb ks (m ++ l) := by
  rcases Nat.eq_zero_or_pos l.length with h0 | h0
  · obtain rfl : l = [] := List.eq_nil_of_length_eq_zero h0
    refine (hwrite0 h A c (by simp at hl; omega)).mono fun e w' ⟨h1, h2⟩ => ⟨0, h1, ?_⟩
    rw [List.append_nil]
    exact h2
  · obtain ⟨g, o, c', hv, _, hg, _, h8⟩ := hQ.at h0 hm
    injection hv with hv1 hv2 hv3
    subst hv1
    subst hv3
    have hh : ∀ i x : Nat, l[i]? = some x → W.cell? ⟨g, o + i, none⟩ = some (.int .u8 (x : Int)) := fun i x hi => (hbw.cell (p := ⟨g, o + i, none⟩) hg).trans (h8.2 i x hi)
    exact (hwrite h l g o c ⟨hm, hh⟩ h0 (Nat.lt_of_lt_of_le hg hbw.size) (fun e => by have := h.gh; omega) hl).mono fun e w' ⟨h1, h2⟩ => ⟨_, h1, h2⟩
theorem hd_len (t n : Nat) (hn : n ≤ 1000000) : (hd (nm t) n).length ≤ 1000100 := by
  have h1 := itoa_len n hn
  rw [itoa_bl] at h1
  have h2 := (nm_size t).1
  unfold hd
  rw [List.length_append, List.length_append, List.length_append, bl_len]
  simp only [List.length_singleton]
  omega
set_option maxHeartbeats 8000000 in
set_option maxRecDepth 100000 in
theorem compute (t : Nat) (h0 : 1 ≤ t) (h1 : t ≤ 4) (A : Option Addr) (c : Nat) (l : List Nat) (w : World) (hQ : BQ w 0 (.slice A l.length c) l) (hm : ∀ x ∈ l, x < 256) (hl : l.length ≤ 1000000) (htab : ∀ W, Below w.heap.size w W → Lib.TabIs Tryd.prog W "internal/strconv.uint64pow10" .u64 Lib.pow10Tab) :
    Calls Tryd.prog 10 #[.int .i8 (t : Int), .slice A l.length c] w fun e w' => e = .returned (.agg (cells (sha1 (hd (nm t) l.length ++ l)))) ∧ Below w.heap.size w w' := by
  obtain ⟨L, hL⟩ : ∃ L, L = l.length := ⟨_, rfl⟩
  have HL := Aside0.mk hL
  have HQ := Aside0.mk hQ
  have HMM := Aside0.mk hm
  have hmw := fun g W => methodW 192 g W
  rw [← hL] at hl ⊢
  have HBA : Aside0 (Below w.heap.size w (w.alloc (.cells #[.int .u8 0, .int .u8 0, .int .u8 0, .int .u8 0, .int .u8 0, .int .u8 0, .int .u8 0, .int .u8 0, .int .u8 0, .int .u8 0, .int .u8 0, .int .u8 0, .int .u8 0, .int .u8 0, .int .u8 0, .int .u8 0, .int .u8 0, .int .u8 0, .int .u8 0, .int .u8 0] 32))) := ⟨below_alloc (Below.refl _ _) _⟩
  have hk4 : (w.alloc (.cells #[.int .u8 0, .int .u8 0, .int .u8 0, .int .u8 0, .int .u8 0, .int .u8 0, .int .u8 0, .int .u8 0, .int .u8 0, .int .u8 0, .int .u8 0, .int .u8 0, .int .u8 0, .int .u8 0, .int .u8 0, .int .u8 0, .int .u8 0, .int .u8 0, .int .u8 0, .int .u8 0] 32)).heap[w.heap.size]? = some (.cells #[.int .u8 0, .int .u8 0, .int .u8 0, .int .u8 0, .int .u8 0, .int .u8 0, .int .u8 0, .int .u8 0, .int .u8 0, .int .u8 0, .int .u8 0, .int .u8 0, .int .u8 0, .int .u8 0, .int .u8 0, .int .u8 0, .int .u8 0, .int .u8 0, .int .u8 0, .int .u8 0] 32 (0, 0)) := heap_alloc_new w _
  have HK4 := Aside0.mk hk4
  have HNH := Aside0.mk (newHasher t h0 h1 L hl (w.alloc (.cells #[.int .u8 0, .int .u8 0, .int .u8 0, .int .u8 0, .int .u8 0, .int .u8 0, .int .u8 0, .int .u8 0, .int .u8 0, .int .u8 0, .int .u8 0, .int .u8 0, .int .u8 0, .int .u8 0, .int .u8 0, .int .u8 0, .int .u8 0, .int .u8 0, .int .u8 0, .int .u8 0] 32)) (fun W hW => htab W (HBA.out.trans (hW.mono HBA.out.size))))
  have HLE := Aside0.mk hl
  clear hL hQ hm htab h0 h1 hk4
  go_enter Tryd.func10, Tryd.ntmps10
  go_wp2_with (first
    | (go_at_call 14
       (with_reducible refine HNH.out.mono ?_)
       rintro e w2 ⟨hb, rfl, hn⟩
       have HN0 : Aside0 (Hn w (w2.alloc (.cells #[.iface 60 (.pointer (some ⟨hb, 0, none⟩))] 42)) hb [(w2.heap.size, #[.iface 60 (.pointer (some ⟨hb, 0, none⟩))], 42), (w.heap.size, #[.int .u8 0, .int .u8 0, .int .u8 0, .int .u8 0, .int .u8 0, .int .u8 0, .int .u8 0, .int .u8 0, .int .u8 0, .int .u8 0, .int .u8 0, .int .u8 0, .int .u8 0, .int .u8 0, .int .u8 0, .int .u8 0, .int .u8 0, .int .u8 0, .int .u8 0, .int .u8 0], 32)] (hd (nm t) L)) := ⟨(((hn.base HBA.out).add ((hn.bel.block _ (Lib.lt_of_heap HK4.out)).trans HK4.out) (by decide) (by decide)).below (below_alloc (Below.refl _ _) _)).add (heap_alloc_new w2 _) (by decide) (by decide)⟩
       have HW0 : Aside0 (Calls Tryd.prog 59 #[.pointer (some ⟨hb, 0, none⟩), .slice A L c] (w2.alloc (.cells #[.iface 60 (.pointer (some ⟨hb, 0, none⟩))] 42)) _) := ⟨by rw [HL.out]; exact hwriteAny HN0.out A c l HQ.out (Nat.le_refl _) HN0.out.bel HMM.out (by have h9 := hd_len t L HLE.out; have h8 := HLE.out; rw [HL.out] at h8 h9; rw [HL.out]; omega)⟩
       have c5 : (w2.alloc (.cells #[.iface 60 (.pointer (some ⟨hb, 0, none⟩))] 42)).cell? ⟨w2.heap.size, 0, none⟩ = some (.iface 60 (.pointer (some ⟨hb, 0, none⟩))) := (Lib.cell_of_heap (heap_alloc_new w2 _) 0).trans rfl
       clear hn)
    | (go_at_call 59
       (with_reducible refine HW0.out.mono ?_)
       rintro e w3 ⟨k, rfl, hn3⟩
       have HN3 := Aside0.mk hn3
       have d5 : w3.cell? ⟨w2.heap.size, 0, none⟩ = some (.iface 60 (.pointer (some ⟨hb, 0, none⟩))) := (Lib.cell_of_heap (hn3.keep _ _ 42 List.mem_cons_self).1 0).trans rfl
       have HSM : Aside0 (Calls Tryd.prog 15 #[.agg #[.iface 60 (.pointer (some ⟨hb, 0, none⟩))]] w3 _) := ⟨sumH hb hn3.ex.choose _ w3 hn3.ex.choose_spec.1 (by have h9 := hd_len t L HLE.out; have h8 := HLE.out; rw [List.length_append, ← HL.out]; omega)⟩
       have HK3 := Aside0.mk (hn3.keep w.heap.size #[.int .u8 0, .int .u8 0, .int .u8 0, .int .u8 0, .int .u8 0, .int .u8 0, .int .u8 0, .int .u8 0, .int .u8 0, .int .u8 0, .int .u8 0, .int .u8 0, .int .u8 0, .int .u8 0, .int .u8 0, .int .u8 0, .int .u8 0, .int .u8 0, .int .u8 0, .int .u8 0] 32 (List.mem_cons_of_mem _ List.mem_cons_self)).1
       clear hn3 c5)
    | (go_at_call 15
       (with_reducible refine HSM.out.mono ?_)
       rintro e w4 ⟨rfl, hb4⟩
       have k4 : w4.heap[w.heap.size]? = some (.cells #[.int .u8 0, .int .u8 0, .int .u8 0, .int .u8 0, .int .u8 0, .int .u8 0, .int .u8 0, .int .u8 0, .int .u8 0, .int .u8 0, .int .u8 0, .int .u8 0, .int .u8 0, .int .u8 0, .int .u8 0, .int .u8 0, .int .u8 0, .int .u8 0, .int .u8 0, .int .u8 0] 32 (0, 0)) := (hb4.block _ (Lib.lt_of_heap HK3.out)).trans HK3.out
       have K4 := Aside0.mk k4
       have HB4 : Aside0 (Below w.heap.size w w4) := ⟨HN3.out.bel.trans (hb4.mono HN3.out.bel.size)⟩
       clear hb4 k4)
    | ((with_reducible refine gate_store (p := 4) rfl ?_); refine wpList_put_row rfl 32 4 (.tmp 15) rfl rfl w.heap.size 32 #[.int .u8 0, .int .u8 0, .int .u8 0, .int .u8 0, .int .u8 0, .int .u8 0, .int .u8 0, .int .u8 0, .int .u8 0, .int .u8 0, .int .u8 0, .int .u8 0, .int .u8 0, .int .u8 0, .int .u8 0, .int .u8 0, .int .u8 0, .int .u8 0, .int .u8 0, .int .u8 0] (cells (sha1 (hd (nm t) L ++ l))) rfl rfl K4.out (by rw [cells_size (sha1_len _)]; rfl) (by rw [cells_size (sha1_len _)]; exact info32) (fun v hv => vB_one _ v (by simpa [cells] using hv)) ?_)
    | fail)
  have hR := setRow_heap _ _ _ (cells (sha1 (hd (nm t) L ++ l))) _ _ K4.out
  have hW := below_setRow HB4.out (Nat.le_refl _) (cells (sha1 (hd (nm t) L ++ l)))
  refine bodyPost_ret (results_cell_row rfl _ _ w.heap.size 32 (cells (sha1 (hd (nm t) L ++ l))) (0, 0) _ rfl hR Tryd.underlying32 rfl (by rw [cells_size (sha1_len _)]; exact info32)) rfl ?_
  exact ⟨rfl, hW⟩
end Go.Proofs.YthpoiceceogdhaaDoor.HshD
