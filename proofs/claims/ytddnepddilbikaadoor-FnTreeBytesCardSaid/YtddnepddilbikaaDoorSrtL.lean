/- plumbing.NewHash and Hash.String, walked, for a text of 40 digits. -/
import Derived.Test.YtddnepddilbikaaDoorPtr
import Derived.Test.YtddnepddilbikaaDoorQAllx0
import Derived.Test.YtddnepddilbikaaDoorShelf
import Derived.Laws.CopyRow
set_option linter.unusedVariables false
set_option linter.unusedSimpArgs false
namespace Go.Proofs.YtddnepddilbikaaDoor.SrtL
open Go.RowKit Go.Proofs.YtddnepddilbikaaDoorW.PrintWords Go.Proofs.YtddnepddilbikaaDoor.QAll Go.Lib Ptr Go.Proofs.YtddnepddilbikaaDoorW.PrintLast Go.Proofs.YtddnepddilbikaaDoorW.PrintMore

/-- The bytes of a text in base 16. -/
def dec (s : ByteArray) : List UInt8 := (Hx.decode s.data.toList).1
/-- Byte i of them, as a number. -/
def hb (s : ByteArray) (i : Nat) : Int := (((dec s)[i]?.getD 0).toNat : Int)
/-- The cells of a hash. -/
def hcells (hv : Nat → Int) : List Value := [.int .u8 (hv 0), .int .u8 (hv 1), .int .u8 (hv 2), .int .u8 (hv 3), .int .u8 (hv 4), .int .u8 (hv 5), .int .u8 (hv 6), .int .u8 (hv 7), .int .u8 (hv 8), .int .u8 (hv 9), .int .u8 (hv 10), .int .u8 (hv 11), .int .u8 (hv 12), .int .u8 (hv 13), .int .u8 (hv 14), .int .u8 (hv 15), .int .u8 (hv 16), .int .u8 (hv 17), .int .u8 (hv 18), .int .u8 (hv 19)]
theorem hcells_at (hv : Nat → Int) (j : Nat) (v : Value) (hh : (hcells hv)[j]? = some v) : j < 20 ∧ v = .int .u8 (hv j) := by
  have hj : j < 20 := (List.getElem?_eq_some_iff.1 hh).1
  refine ⟨hj, ?_⟩
  obtain ⟨hl, e⟩ := List.getElem?_eq_some_iff.1 hh
  rw [← e]
  have : ∀ k : Fin 20, (hcells hv)[k.val]'(k.isLt) = .int .u8 (hv k.val) := by
    intro k
    match k with
    | ⟨0, _⟩ => rfl
    | ⟨1, _⟩ => rfl
    | ⟨2, _⟩ => rfl
    | ⟨3, _⟩ => rfl
    | ⟨4, _⟩ => rfl
    | ⟨5, _⟩ => rfl
    | ⟨6, _⟩ => rfl
    | ⟨7, _⟩ => rfl
    | ⟨8, _⟩ => rfl
    | ⟨9, _⟩ => rfl
    | ⟨10, _⟩ => rfl
    | ⟨11, _⟩ => rfl
    | ⟨12, _⟩ => rfl
    | ⟨13, _⟩ => rfl
    | ⟨14, _⟩ => rfl
    | ⟨15, _⟩ => rfl
    | ⟨16, _⟩ => rfl
    | ⟨17, _⟩ => rfl
    | ⟨18, _⟩ => rfl
    | ⟨19, _⟩ => rfl
    | ⟨n + 20, h⟩ => exact absurd h (by omega)
  exact this ⟨j, hj⟩
theorem hcells_len (hv : Nat → Int) : (hcells hv).length = 20 := rfl
theorem hcells_one (hv : Nat → Int) : ∀ v ∈ hcells hv, v.oneCell' = true := by
  intro v hm
  obtain ⟨j, hj⟩ := List.getElem?_of_mem hm
  rw [(hcells_at hv j v hj).2]
  rfl
theorem info41 : (Tryd.prog.info? 51).map (·.size) = some 20 := by kernel_rfl
theorem size20 {hv : Nat → Int} : (#[.int .u8 (hv 0), .int .u8 (hv 1), .int .u8 (hv 2), .int .u8 (hv 3), .int .u8 (hv 4), .int .u8 (hv 5), .int .u8 (hv 6), .int .u8 (hv 7), .int .u8 (hv 8), .int .u8 (hv 9), .int .u8 (hv 10), .int .u8 (hv 11), .int .u8 (hv 12), .int .u8 (hv 13), .int .u8 (hv 14), .int .u8 (hv 15), .int .u8 (hv 16), .int .u8 (hv 17), .int .u8 (hv 18), .int .u8 (hv 19)] : Array Value).size = (#[.int .u8 0, .int .u8 0, .int .u8 0, .int .u8 0, .int .u8 0, .int .u8 0, .int .u8 0, .int .u8 0, .int .u8 0, .int .u8 0, .int .u8 0, .int .u8 0, .int .u8 0, .int .u8 0, .int .u8 0, .int .u8 0, .int .u8 0, .int .u8 0, .int .u8 0, .int .u8 0] : Array Value).size := by simp
theorem info5 : (Tryd.prog.info? 5).map (·.size) = some 1 := by kernel_rfl

theorem copy20 (hv : Nat → Int) (w1 : World) (G : Nat) (hsrc : ∀ j v, (hcells hv)[j]? = some v → (w1.alloc (.cells #[.int .u8 0, .int .u8 0, .int .u8 0, .int .u8 0, .int .u8 0, .int .u8 0, .int .u8 0, .int .u8 0, .int .u8 0, .int .u8 0, .int .u8 0, .int .u8 0, .int .u8 0, .int .u8 0, .int .u8 0, .int .u8 0, .int .u8 0, .int .u8 0, .int .u8 0, .int .u8 0] 51)).cell? ((⟨G, 0, none⟩ : Addr).add j) = some v) :
    (Builtin.copy_ #[24, 24] 3 #[.slice (some ⟨w1.heap.size, 0, none⟩) 20 20, .slice (some ⟨G, 0, none⟩) 20 20]).run Tryd.prog (w1.alloc (.cells #[.int .u8 0, .int .u8 0, .int .u8 0, .int .u8 0, .int .u8 0, .int .u8 0, .int .u8 0, .int .u8 0, .int .u8 0, .int .u8 0, .int .u8 0, .int .u8 0, .int .u8 0, .int .u8 0, .int .u8 0, .int .u8 0, .int .u8 0, .int .u8 0, .int .u8 0, .int .u8 0] 51)) = .ok (.int .i64 20) (w1.alloc (.cells #[.int .u8 (hv 0), .int .u8 (hv 1), .int .u8 (hv 2), .int .u8 (hv 3), .int .u8 (hv 4), .int .u8 (hv 5), .int .u8 (hv 6), .int .u8 (hv 7), .int .u8 (hv 8), .int .u8 (hv 9), .int .u8 (hv 10), .int .u8 (hv 11), .int .u8 (hv 12), .int .u8 (hv 13), .int .u8 (hv 14), .int .u8 (hv 15), .int .u8 (hv 16), .int .u8 (hv 17), .int .u8 (hv 18), .int .u8 (hv 19)] 51)) := by
  have hg : (w1.alloc (.cells #[.int .u8 0, .int .u8 0, .int .u8 0, .int .u8 0, .int .u8 0, .int .u8 0, .int .u8 0, .int .u8 0, .int .u8 0, .int .u8 0, .int .u8 0, .int .u8 0, .int .u8 0, .int .u8 0, .int .u8 0, .int .u8 0, .int .u8 0, .int .u8 0, .int .u8 0, .int .u8 0] 51)).heap[w1.heap.size]? = some (.cells #[.int .u8 0, .int .u8 0, .int .u8 0, .int .u8 0, .int .u8 0, .int .u8 0, .int .u8 0, .int .u8 0, .int .u8 0, .int .u8 0, .int .u8 0, .int .u8 0, .int .u8 0, .int .u8 0, .int .u8 0, .int .u8 0, .int .u8 0, .int .u8 0, .int .u8 0, .int .u8 0] 51 (0, 0)) := blk_new _ _
  have hcp := run_copy_row (P := Tryd.prog) (w1.alloc (.cells #[.int .u8 0, .int .u8 0, .int .u8 0, .int .u8 0, .int .u8 0, .int .u8 0, .int .u8 0, .int .u8 0, .int .u8 0, .int .u8 0, .int .u8 0, .int .u8 0, .int .u8 0, .int .u8 0, .int .u8 0, .int .u8 0, .int .u8 0, .int .u8 0, .int .u8 0, .int .u8 0] 51)) 24 24 3 5 w1.heap.size 0 20 20 ⟨G, 0, none⟩ 20 20 #[.int .u8 0, .int .u8 0, .int .u8 0, .int .u8 0, .int .u8 0, .int .u8 0, .int .u8 0, .int .u8 0, .int .u8 0, .int .u8 0, .int .u8 0, .int .u8 0, .int .u8 0, .int .u8 0, .int .u8 0, .int .u8 0, .int .u8 0, .int .u8 0, .int .u8 0, .int .u8 0] 51 (hcells hv) Tryd.underlying24 info5 hg (by rw [hcells_len]; decide) hsrc (by rw [hcells_len]; decide) (hcells_one hv)
  rw [hcells_len, setRow_new] at hcp
  have e : ((#[.int .u8 0, .int .u8 0, .int .u8 0, .int .u8 0, .int .u8 0, .int .u8 0, .int .u8 0, .int .u8 0, .int .u8 0, .int .u8 0, .int .u8 0, .int .u8 0, .int .u8 0, .int .u8 0, .int .u8 0, .int .u8 0, .int .u8 0, .int .u8 0, .int .u8 0, .int .u8 0] : Array Value).toList.take 0 ++ hcells hv ++ (#[.int .u8 0, .int .u8 0, .int .u8 0, .int .u8 0, .int .u8 0, .int .u8 0, .int .u8 0, .int .u8 0, .int .u8 0, .int .u8 0, .int .u8 0, .int .u8 0, .int .u8 0, .int .u8 0, .int .u8 0, .int .u8 0, .int .u8 0, .int .u8 0, .int .u8 0, .int .u8 0] : Array Value).toList.drop (0 + 20)).toArray = #[.int .u8 (hv 0), .int .u8 (hv 1), .int .u8 (hv 2), .int .u8 (hv 3), .int .u8 (hv 4), .int .u8 (hv 5), .int .u8 (hv 6), .int .u8 (hv 7), .int .u8 (hv 8), .int .u8 (hv 9), .int .u8 (hv 10), .int .u8 (hv 11), .int .u8 (hv 12), .int .u8 (hv 13), .int .u8 (hv 14), .int .u8 (hv 15), .int .u8 (hv 16), .int .u8 (hv 17), .int .u8 (hv 18), .int .u8 (hv 19)] := by
    simp [hcells]
  rw [e] at hcp
  exact hcp

set_option maxHeartbeats 4000000 in
set_option maxRecDepth 100000 in
theorem newHash (s : ByteArray) (hv : Nat → Int) (hh : ∀ i, i < 20 → hv i = hb s i) (ev : Value) (w : World) (hE : w.cell? ⟨2, 0, none⟩ = some ev) (hs : s.size = 40) (hd : (dec s).length = 20) :
    Calls Tryd.prog 32 #[.string s] w fun e w' => e = .returned (.agg #[.int .u8 (hv 0), .int .u8 (hv 1), .int .u8 (hv 2), .int .u8 (hv 3), .int .u8 (hv 4), .int .u8 (hv 5), .int .u8 (hv 6), .int .u8 (hv 7), .int .u8 (hv 8), .int .u8 (hv 9), .int .u8 (hv 10), .int .u8 (hv 11), .int .u8 (hv 12), .int .u8 (hv 13), .int .u8 (hv 14), .int .u8 (hv 15), .int .u8 (hv 16), .int .u8 (hv 17), .int .u8 (hv 18), .int .u8 (hv 19)]) ∧ Below w.heap.size w w' := by
  have HE : Aside0 (∀ o, (w.alloc o).cell? ⟨2, 0, none⟩ = some ev) := ⟨fun o => (World.cell?_alloc_lt _ _ _ (World.block_lt_of_cell? w _ hE)).trans hE⟩
  have HS := Aside0.mk hs
  have HD := Aside0.mk hd
  have HH := Aside0.mk hh
  clear hE hs hd hh
  go_enter Tryd.func32, Tryd.ntmps32
  go_wp2_with fail
  (with_reducible refine (Tryd.hex_DecodeString s _ ev (HE.out _) (by have := HS.out; omega)).mono ?_)
  rintro e w1 ⟨rfl, hrow, hb1⟩
  have HB1 : Aside0 (Below w.heap.size w w1) := ⟨(below_alloc (Below.refl _ _) _).trans (hb1.mono (by simp))⟩
  have hlen : (Hx.decode s.data.toList).1.length = 20 := HD.out
  have hsrc : ∀ j v, (hcells hv)[j]? = some v → (w1.alloc (.cells #[.int .u8 0, .int .u8 0, .int .u8 0, .int .u8 0, .int .u8 0, .int .u8 0, .int .u8 0, .int .u8 0, .int .u8 0, .int .u8 0, .int .u8 0, .int .u8 0, .int .u8 0, .int .u8 0, .int .u8 0, .int .u8 0, .int .u8 0, .int .u8 0, .int .u8 0, .int .u8 0] 51)).cell? ((⟨(w.alloc (.cells #[.int .u8 0, .int .u8 0, .int .u8 0, .int .u8 0, .int .u8 0, .int .u8 0, .int .u8 0, .int .u8 0, .int .u8 0, .int .u8 0, .int .u8 0, .int .u8 0, .int .u8 0, .int .u8 0, .int .u8 0, .int .u8 0, .int .u8 0, .int .u8 0, .int .u8 0, .int .u8 0] 51)).heap.size, 0, none⟩ : Addr).add j) = some v := by
    intro j v hj
    obtain ⟨hj20, rfl⟩ := hcells_at hv j v hj
    have hc := hrow.cell (i := j) (by rw [HS.out]; omega)
    rw [Go.Proofs.YtddnepddilbikaaDoorW.PrintWords.add_plain]
    refine (World.cell?_alloc_lt _ _ _ (World.block_lt_of_cell? w1 _ hc)).trans (hc.trans ?_)
    unfold Hx.rowP
    rw [if_pos (by omega), HH.out j hj20]
    rfl
  have HZ : Aside0 ((w1.alloc (.cells #[.int .u8 (hv 0), .int .u8 (hv 1), .int .u8 (hv 2), .int .u8 (hv 3), .int .u8 (hv 4), .int .u8 (hv 5), .int .u8 (hv 6), .int .u8 (hv 7), .int .u8 (hv 8), .int .u8 (hv 9), .int .u8 (hv 10), .int .u8 (hv 11), .int .u8 (hv 12), .int .u8 (hv 13), .int .u8 (hv 14), .int .u8 (hv 15), .int .u8 (hv 16), .int .u8 (hv 17), .int .u8 (hv 18), .int .u8 (hv 19)] 51)).heap[w.heap.size]? = some (.cells #[.int .u8 0, .int .u8 0, .int .u8 0, .int .u8 0, .int .u8 0, .int .u8 0, .int .u8 0, .int .u8 0, .int .u8 0, .int .u8 0, .int .u8 0, .int .u8 0, .int .u8 0, .int .u8 0, .int .u8 0, .int .u8 0, .int .u8 0, .int .u8 0, .int .u8 0, .int .u8 0] 51 (0, 0))) := ⟨blk_alloc ((hb1.block _ (by simp)).trans (blk_new _ _)) _⟩
  have hcp2 := copy20 hv w1 _ hsrc
  rw [hlen, HS.out]
  clear hb1 hrow hsrc hlen
  generalize (w.alloc (.cells #[.int .u8 0, .int .u8 0, .int .u8 0, .int .u8 0, .int .u8 0, .int .u8 0, .int .u8 0, .int .u8 0, .int .u8 0, .int .u8 0, .int .u8 0, .int .u8 0, .int .u8 0, .int .u8 0, .int .u8 0, .int .u8 0, .int .u8 0, .int .u8 0, .int .u8 0, .int .u8 0] 51)).heap.size = G at hcp2 ⊢
  generalize Hx.errVal 81 ev (Hx.decode s.data.toList).snd = EV
  clear HE HS HD HH
  have hz : (w1.alloc (.cells #[.int .u8 (hv 0), .int .u8 (hv 1), .int .u8 (hv 2), .int .u8 (hv 3), .int .u8 (hv 4), .int .u8 (hv 5), .int .u8 (hv 6), .int .u8 (hv 7), .int .u8 (hv 8), .int .u8 (hv 9), .int .u8 (hv 10), .int .u8 (hv 11), .int .u8 (hv 12), .int .u8 (hv 13), .int .u8 (hv 14), .int .u8 (hv 15), .int .u8 (hv 16), .int .u8 (hv 17), .int .u8 (hv 18), .int .u8 (hv 19)] 51)).heap[w.heap.size]? = some (.cells #[.int .u8 0, .int .u8 0, .int .u8 0, .int .u8 0, .int .u8 0, .int .u8 0, .int .u8 0, .int .u8 0, .int .u8 0, .int .u8 0, .int .u8 0, .int .u8 0, .int .u8 0, .int .u8 0, .int .u8 0, .int .u8 0, .int .u8 0, .int .u8 0, .int .u8 0, .int .u8 0] 51 (0, 0)) := HZ.out
  have hW := Aside0.mk (below_setRow (below_alloc HB1.out (.cells #[.int .u8 (hv 0), .int .u8 (hv 1), .int .u8 (hv 2), .int .u8 (hv 3), .int .u8 (hv 4), .int .u8 (hv 5), .int .u8 (hv 6), .int .u8 (hv 7), .int .u8 (hv 8), .int .u8 (hv 9), .int .u8 (hv 10), .int .u8 (hv 11), .int .u8 (hv 12), .int .u8 (hv 13), .int .u8 (hv 14), .int .u8 (hv 15), .int .u8 (hv 16), .int .u8 (hv 17), .int .u8 (hv 18), .int .u8 (hv 19)] 51)) (Nat.le_refl _) #[.int .u8 (hv 0), .int .u8 (hv 1), .int .u8 (hv 2), .int .u8 (hv 3), .int .u8 (hv 4), .int .u8 (hv 5), .int .u8 (hv 6), .int .u8 (hv 7), .int .u8 (hv 8), .int .u8 (hv 9), .int .u8 (hv 10), .int .u8 (hv 11), .int .u8 (hv 12), .int .u8 (hv 13), .int .u8 (hv 14), .int .u8 (hv 15), .int .u8 (hv 16), .int .u8 (hv 17), .int .u8 (hv 18), .int .u8 (hv 19)])
  have hR := Aside0.mk (setRow_heap _ _ _ #[.int .u8 (hv 0), .int .u8 (hv 1), .int .u8 (hv 2), .int .u8 (hv 3), .int .u8 (hv 4), .int .u8 (hv 5), .int .u8 (hv 6), .int .u8 (hv 7), .int .u8 (hv 8), .int .u8 (hv 9), .int .u8 (hv 10), .int .u8 (hv 11), .int .u8 (hv 12), .int .u8 (hv 13), .int .u8 (hv 14), .int .u8 (hv 15), .int .u8 (hv 16), .int .u8 (hv 17), .int .u8 (hv 18), .int .u8 (hv 19)] _ _ hz)
  have HZ2 := Aside0.mk hz
  have HL : Aside0 ((w1.alloc (.cells #[.int .u8 (hv 0), .int .u8 (hv 1), .int .u8 (hv 2), .int .u8 (hv 3), .int .u8 (hv 4), .int .u8 (hv 5), .int .u8 (hv 6), .int .u8 (hv 7), .int .u8 (hv 8), .int .u8 (hv 9), .int .u8 (hv 10), .int .u8 (hv 11), .int .u8 (hv 12), .int .u8 (hv 13), .int .u8 (hv 14), .int .u8 (hv 15), .int .u8 (hv 16), .int .u8 (hv 17), .int .u8 (hv 18), .int .u8 (hv 19)] 51)).heap[w1.heap.size]? = some (.cells #[.int .u8 (hv 0), .int .u8 (hv 1), .int .u8 (hv 2), .int .u8 (hv 3), .int .u8 (hv 4), .int .u8 (hv 5), .int .u8 (hv 6), .int .u8 (hv 7), .int .u8 (hv 8), .int .u8 (hv 9), .int .u8 (hv 10), .int .u8 (hv 11), .int .u8 (hv 12), .int .u8 (hv 13), .int .u8 (hv 14), .int .u8 (hv 15), .int .u8 (hv 16), .int .u8 (hv 17), .int .u8 (hv 18), .int .u8 (hv 19)] 51 (0, 0))) := ⟨blk_new _ _⟩
  clear HZ hz
  go_wp2_with (first
    | ((with_reducible refine gate_dst (N := 14) rfl ?_); refine wpList_get_row rfl 51 5 14 rfl rfl w1.heap.size 51 #[.int .u8 (hv 0), .int .u8 (hv 1), .int .u8 (hv 2), .int .u8 (hv 3), .int .u8 (hv 4), .int .u8 (hv 5), .int .u8 (hv 6), .int .u8 (hv 7), .int .u8 (hv 8), .int .u8 (hv 9), .int .u8 (hv 10), .int .u8 (hv 11), .int .u8 (hv 12), .int .u8 (hv 13), .int .u8 (hv 14), .int .u8 (hv 15), .int .u8 (hv 16), .int .u8 (hv 17), .int .u8 (hv 18), .int .u8 (hv 19)] (0, 0) _ rfl HL.out Tryd.underlying51 rfl info41 ?_)
    | ((with_reducible refine gate_store (p := 2) rfl ?_); refine wpList_put_row rfl 51 2 (.tmp 14) rfl rfl w.heap.size 51 #[.int .u8 0, .int .u8 0, .int .u8 0, .int .u8 0, .int .u8 0, .int .u8 0, .int .u8 0, .int .u8 0, .int .u8 0, .int .u8 0, .int .u8 0, .int .u8 0, .int .u8 0, .int .u8 0, .int .u8 0, .int .u8 0, .int .u8 0, .int .u8 0, .int .u8 0, .int .u8 0] #[.int .u8 (hv 0), .int .u8 (hv 1), .int .u8 (hv 2), .int .u8 (hv 3), .int .u8 (hv 4), .int .u8 (hv 5), .int .u8 (hv 6), .int .u8 (hv 7), .int .u8 (hv 8), .int .u8 (hv 9), .int .u8 (hv 10), .int .u8 (hv 11), .int .u8 (hv 12), .int .u8 (hv 13), .int .u8 (hv 14), .int .u8 (hv 15), .int .u8 (hv 16), .int .u8 (hv 17), .int .u8 (hv 18), .int .u8 (hv 19)] rfl rfl HZ2.out size20 info41 (hcells_one hv) ?_))
  refine bodyPost_ret (results_cell_row rfl _ _ w.heap.size 51 #[.int .u8 (hv 0), .int .u8 (hv 1), .int .u8 (hv 2), .int .u8 (hv 3), .int .u8 (hv 4), .int .u8 (hv 5), .int .u8 (hv 6), .int .u8 (hv 7), .int .u8 (hv 8), .int .u8 (hv 9), .int .u8 (hv 10), .int .u8 (hv 11), .int .u8 (hv 12), .int .u8 (hv 13), .int .u8 (hv 14), .int .u8 (hv 15), .int .u8 (hv 16), .int .u8 (hv 17), .int .u8 (hv 18), .int .u8 (hv 19)] (0, 0) _ rfl hR.out Tryd.underlying51 rfl info41) rfl ?_
  exact ⟨rfl, hW.out⟩
/-- The text of 20 bytes. -/
def hexOf (hv : Nat → Int) : ByteArray := ⟨(Hx.encode (Lib.bytesOf ((List.range 20).map hv))).toArray⟩
theorem getD20 (hv : Nat → Int) (i : Nat) (hi : i < 20) : ((List.range 20).map hv).getD i 0 = hv i := by
  rw [List.getD_eq_getElem?_getD, List.getElem?_map, List.getElem?_range hi]
  rfl
set_option maxHeartbeats 4000000 in
set_option maxRecDepth 100000 in
theorem hashString (hv : Nat → Int) (hs : ByteArray) (hh : hs = hexOf hv) (hr : ∀ i, i < 20 → 0 ≤ hv i ∧ hv i < 256) (w : World) :
    Calls Tryd.prog 64 #[.agg #[.int .u8 (hv 0), .int .u8 (hv 1), .int .u8 (hv 2), .int .u8 (hv 3), .int .u8 (hv 4), .int .u8 (hv 5), .int .u8 (hv 6), .int .u8 (hv 7), .int .u8 (hv 8), .int .u8 (hv 9), .int .u8 (hv 10), .int .u8 (hv 11), .int .u8 (hv 12), .int .u8 (hv 13), .int .u8 (hv 14), .int .u8 (hv 15), .int .u8 (hv 16), .int .u8 (hv 17), .int .u8 (hv 18), .int .u8 (hv 19)]] w fun e w' => e = .returned (.string hs) ∧ Below w.heap.size w w' := by
  have hcell : ∀ i, i < 20 → (w.alloc (.cells #[.int .u8 (hv 0), .int .u8 (hv 1), .int .u8 (hv 2), .int .u8 (hv 3), .int .u8 (hv 4), .int .u8 (hv 5), .int .u8 (hv 6), .int .u8 (hv 7), .int .u8 (hv 8), .int .u8 (hv 9), .int .u8 (hv 10), .int .u8 (hv 11), .int .u8 (hv 12), .int .u8 (hv 13), .int .u8 (hv 14), .int .u8 (hv 15), .int .u8 (hv 16), .int .u8 (hv 17), .int .u8 (hv 18), .int .u8 (hv 19)] 51)).cell? ⟨w.heap.size, 0 + i, none⟩ = some (.int .u8 (((List.range 20).map hv).getD i 0)) := by
    intro i hi
    rw [Nat.zero_add, getD20 hv i hi, blk_cell (blk_new w _)]
    have hl : i < (hcells hv).length := hi
    have := (hcells_at hv i _ (List.getElem?_eq_getElem hl)).2
    have h2 : (hcells hv)[i]? = some (.int .u8 (hv i)) := by rw [List.getElem?_eq_getElem hl, this]
    show (hcells hv).toArray[i]? = _
    rw [List.getElem?_toArray]
    exact h2
  have HC := Aside0.mk (Tryd.hex_EncodeToString w.heap.size 0 20 20 ((List.range 20).map hv) (w.alloc (.cells #[.int .u8 (hv 0), .int .u8 (hv 1), .int .u8 (hv 2), .int .u8 (hv 3), .int .u8 (hv 4), .int .u8 (hv 5), .int .u8 (hv 6), .int .u8 (hv 7), .int .u8 (hv 8), .int .u8 (hv 9), .int .u8 (hv 10), .int .u8 (hv 11), .int .u8 (hv 12), .int .u8 (hv 13), .int .u8 (hv 14), .int .u8 (hv 15), .int .u8 (hv 16), .int .u8 (hv 17), .int .u8 (hv 18), .int .u8 (hv 19)] 51)) (by simp) (fun i hi => by rw [getD20 hv i hi]; exact hr i hi) hcell (by simp) (by decide))
  have HH := Aside0.mk hh
  clear hcell hr hh
  go_enter Tryd.func64, Tryd.ntmps64
  go_wp2_with (first
    | (go_at_call 79; (with_reducible refine HC.out.mono ?_); rintro e w1 ⟨rfl, hb1⟩; have HB1 : Aside0 (Below w.heap.size w w1) := ⟨(below_alloc (Below.refl _ _) _).trans (hb1.mono (by simp))⟩; clear hb1))
  go_ret
  exact ⟨by rw [HH.out]; rfl, HB1.out⟩
#print axioms newHash
#print axioms hashString
end Go.Proofs.YtddnepddilbikaaDoor.SrtL
