/- bytes.NewReader, MemoryObject.Reader, nopCloser.Close, impl.readAll, impl.textOf, walked. -/
import Derived.Test.YtddnepddilbikaaDoorObjA
import Derived.Test.YtddnepddilbikaaDoorHandA
import Derived.LaidEql
import Derived.BigQuiet
set_option linter.unusedVariables false
set_option linter.unusedSimpArgs false
namespace Go.Proofs.YtddnepddilbikaaDoor.ObjF
open Go.RowKit Go.Proofs.YtddnepddilbikaaDoorW.PrintLast Go.Proofs.YtddnepddilbikaaDoorW.PrintMore Go.Proofs.YtddnepddilbikaaDoor.QAll Txt PureA HandA ObjA
open Go.Proofs.YtddnepddilbikaaDoorW.PrintWords hiding nums

set_option maxHeartbeats 4000000 in
set_option maxRecDepth 100000 in
theorem newReader (A : Option Addr) (n c : Nat) (w : World) : Calls Tryd.prog 132 #[.slice A n c] w fun e w' => e = .returned (.pointer (some ⟨w.heap.size, 0, none⟩)) ∧ w'.heap[w.heap.size]? = some (.cells #[.slice A n c, .int .i64 0, .int .i64 (-1)] 212 (0, 0)) ∧ Below w.heap.size w w' := by
  go_enter Tryd.func132, Tryd.ntmps132
  go_wp2
  go_ret
  exact ⟨rfl, blk_new _ _, below_alloc (Below.refl _ _) _⟩

theorem found210 (nm : String) (f : Nat) (p : Bool) (l : List FieldStep) (h : (Tryd.prog.info? 210).map (fun i => (i.methods.find? (fun m => m.name == nm)).map (fun m => (m.path.toList, m.func))) = some (some (l, some (f, p)))) : ∃ i m, Tryd.prog.info? 210 = some i ∧ i.methods.find? (fun m => m.name == nm) = some m ∧ m.path.toList = l ∧ m.func = some (f, p) := by
  obtain ⟨i, hi, h1⟩ := Option.map_eq_some_iff.1 h
  obtain ⟨m, hm, h2⟩ := Option.map_eq_some_iff.1 h1
  simp only [Prod.mk.injEq] at h2
  exact ⟨i, m, hi, hm, h2.1, h2.2⟩
theorem und210 : (match Tryd.prog.underlying 210 with | some (.struct fs) => (fs[0]?).map (fun f => (f.type, f.offset)) | _ => none) = some (207, 0) := by kernel_rfl
theorem mRead (n g : Nat) (W : World) : (method (n + 1) 210 (.agg #[.pointer (some ⟨g, 0, none⟩)]) "Read").run Tryd.prog W = .ok (157, .pointer (some ⟨g, 0, none⟩)) W := by
  obtain ⟨i, m, h1, h2, h3, h4⟩ := found210 "Read" 157 true [⟨210, 0, false⟩] (by kernel_rfl)
  have hu := und210
  split at hu
  · rename_i fs e
    obtain ⟨f, hf, hq⟩ := Option.map_eq_some_iff.1 hu
    simp only [Prod.mk.injEq] at hq
    have hp : (part 207 #[Value.pointer (some ⟨g, 0, none⟩)] 0).run Tryd.prog W = .ok (.pointer (some ⟨g, 0, none⟩)) W := by
      unfold part isAgg
      simp [Tryd.underlying207]
    unfold method
    simp [typeInfo, h1, h2, h3, h4, follow, receiverAt, Place.get, e, hf, hq.1, hq.2, hp, Tryd.underlying207]
  · cases hu
theorem mCloseN (n g : Nat) (W : World) : (method (n + 1) 210 (.agg #[.pointer (some ⟨g, 0, none⟩)]) "Close").run Tryd.prog W = .ok (159, .agg #[.pointer (some ⟨g, 0, none⟩)]) W := by
  obtain ⟨i, m, h1, h2, h3, h4⟩ := found210 "Close" 159 false [] (by kernel_rfl)
  have hu := und210
  split at hu
  · rename_i fs e
    have h5 : m.path = #[] := by simpa using h3
    unfold method
    simp [typeInfo, h1, h2, h5, h4, follow, receiverAt, Place.get, e]
  · cases hu

set_option maxHeartbeats 8000000 in
set_option maxRecDepth 100000 in
/-- What is read of a MemoryObject: its bytes, by a reader of its own. -/
theorem reader {w0 W : World} {o : Nat} {ty : Int} {l : List Int} (h : Mo w0 W o ty l) :
    Calls Tryd.prog 127 #[.pointer (some ⟨o, 0, none⟩)] W fun e w' => ∃ A c, e = .returned (.tuple #[.iface 210 (.agg #[.pointer (some ⟨W.heap.size, 0, none⟩)]), .nilIface]) ∧ l.length ≤ c ∧ Kd.C (Kd.int .u8) W A l.length l ∧ w'.heap[W.heap.size]? = some (.cells (rdC A l c 0 (-1)) 212 (0, 0)) ∧ Below W.heap.size W w' := by
  obtain ⟨V, h1, h2, h3, h4⟩ := h
  obtain ⟨A, c, rfl, hc, hC⟩ := Kd.R_reads h2
  have c21 : W.cell? ⟨o, 21, none⟩ = some (.slice A l.length c) := (Lib.cell_of_heap h1 21).trans rfl
  have HN := Aside0.mk (newReader A l.length c W)
  have HC := Aside0.mk (And.intro hc hC)
  clear h1 h2 h3 h4 hc hC
  go_enter Tryd.func127, Tryd.ntmps127
  go_wp2_with (first
    | (go_at_call 132
       (with_reducible refine HN.out.mono ?_)
       rintro x w1 ⟨rfl, hr, hb⟩
       have HR := Aside0.mk (And.intro hr hb)
       clear hr hb)
    | fail)
  go_ret2
  exact ⟨A, c, rfl, HC.out.1, HC.out.2, HR.out.1, HR.out.2⟩
set_option maxHeartbeats 4000000 in
set_option maxRecDepth 100000 in
theorem closeN (rb : Nat) (w : World) : Calls Tryd.prog 159 #[.agg #[.pointer (some ⟨rb, 0, none⟩)]] w fun e w' => e = .returned .nilIface ∧ Below w.heap.size w w' := by
  go_enter Tryd.func159, Tryd.ntmps159
  go_wp2
  go_ret
  exact ⟨rfl, below_alloc (Below.refl _ _) _⟩
theorem i134 : (Tryd.prog.info? 134).map (·.comparable) = some true := by kernel_rfl
theorem i136 : (Tryd.prog.info? 136).map (·.size) = some 1 := by kernel_rfl
theorem eqSame (a : Addr) (W : World) : (binOp .eql 63 (.iface 134 (.pointer (some a))) (.iface 134 (.pointer (some a)))).run Tryd.prog W = .ok (.bool true) W := by
  obtain ⟨i, hi, hc⟩ := Option.map_eq_some_iff.1 i134
  obtain ⟨j, hj, _⟩ := Option.map_eq_some_iff.1 i136
  exact run_eql_iface_ptr_same W a Tryd.underlying63 Tryd.underlying134 hi hc hj
/-- A row of 512 bytes. -/
theorem make512 : ∃ M : Array Value, M.size = 512 ∧ ∀ W : World, (Instr.makeSlice 24 (.int .i64 512) (.int .i64 512)).run Tryd.prog W = .ok (.slice (some ⟨W.heap.size, 0, none⟩) 512 512) (W.alloc (.cells M 5)) := by
  obtain ⟨i0, hi, hz0, hz1, hz2⟩ := info_parts (show (Tryd.prog.info? 5).map (fun i => (i.zero, i.size, i.bytes)) = some (some (.int .u8 0), 1, 1) by kernel_rfl)
  refine ⟨madeCells (Value.int .u8 0).cells ((512 : Int).toNat * i0.size), by rw [size_madeCells, hz1]; rfl, fun W => ?_⟩
  have h := run_makeSlice (P := Tryd.prog) W 24 5 i0 (.int .u8 0) Tryd.underlying24 hi hz0 .i64 .i64 512 512 (by omega) (by omega) (by rw [hz1]; omega) (by rw [hz2]; omega) (by omega)
  exact h
/-- A row from its start on. -/
theorem toA (X : Option Addr) (n cb l : Nat) (h : l ≤ cb) : ∀ W : World, (Instr.slice 24 (.slice X n cb) none (some (.int .i64 (l : Int))) none).run Tryd.prog W = .ok (.slice X l cb) W := by
  obtain ⟨i, hi, _, hsz, _⟩ := info_parts (show (Tryd.prog.info? 5).map (fun i => (i.zero, i.size, i.bytes)) = some (some (.int .u8 0), 1, 1) by kernel_rfl)
  intro W
  have hel : Tryd.prog.elem 24 = 5 := by simp [Program.elem, Tryd.underlying24]
  have hu : Tryd.prog.underlying 24 = some (.slice (Tryd.prog.elem 24)) := by rw [hel]; exact Tryd.underlying24
  have ha : (X.map fun x => x.add 0) = X := by cases X <;> simp [Addr.add]
  rw [run_slice_h W 24 X n cb hu .i64 (l : Int) (Int.natCast_nonneg _) (by omega), hel]
  simp [sizeOf, typeInfo, hi, hsz, sliced, Result.andThen, ha]
/-- The loop's state: pos bytes have been read. -/
structure Rl (W0 w : World) (rb pb : Nat) (A : Option Addr) (D : List Int) (c pos : Nat) (V : Value) : Prop where
  b : Below W0.heap.size W0 w
  r : ∃ pr, w.heap[rb]? = some (.cells (rdC A D c pos pr) 212 (0, 0))
  p : ∃ cur : List Value, cur.length = 512 ∧ w.heap[pb]? = some (.cells cur.toArray 5 (0, 0))
  o : Kd.R (Kd.int .u8) 5 w W0.heap.size (fun k => k ≠ rb ∧ k ≠ pb) V (D.take pos)
theorem Rl.far {W0 w w' : World} {rb pb : Nat} {A : Option Addr} {D : List Int} {c pos : Nat} {V : Value} (h : Rl W0 w rb pb A D c pos V) (k : Far w w' (fun i => i = pb ∨ i = rb)) (hrb : W0.heap.size ≤ rb) (hpb : W0.heap.size ≤ pb) : Below W0.heap.size W0 w' ∧ Kd.R (Kd.int .u8) 5 w' W0.heap.size (fun k => k ≠ rb ∧ k ≠ pb) V (D.take pos) := by
  refine ⟨?_, ?_⟩
  · have := k.below (B := W0.heap.size) h.b.size (fun i hi => by rcases hi with rfl | rfl <;> assumption)
    exact h.b.trans this
  · exact Kd.R_step h.o (fun i hi hl => k.blk i hl (fun q => by rcases q with q | q; exact hi.2 q; exact hi.1 q))
theorem Rl.src {W0 w w' : World} {rb pb : Nat} {A : Option Addr} {D : List Int} {c pos k : Nat} {cur : List Value} (k1 : Rd w w' rb pb 0 A D c pos k cur 5) (h1 : k ≤ 512) (h2 : pos + k ≤ D.length) : Kd.C (Kd.int .u8) w' (some ⟨pb, 0, none⟩) k ((D.drop pos).take k) := by
  have hlen : ((D.drop pos).take k).length = k := by rw [List.length_take, List.length_drop]; omega
  have h := C_blk (off := 0) (xs := (D.drop pos).take k) k1.g (by rw [hlen]; omega) (fun j x hx => by
    have hj : j < ((D.drop pos).take k).length := (List.getElem?_eq_some_iff.1 hx).1
    unfold splice seg
    simp only [Nat.zero_add]
    rw [List.take_zero, List.nil_append, List.getElem?_append_left (by rw [List.length_map]; exact hj), List.getElem?_map, hx]
    rfl)
  rw [hlen] at h
  exact h
theorem take_more (D : List Int) (pos k : Nat) : D.take pos ++ (D.drop pos).take k = D.take (pos + k) := by rw [← List.take_add]

set_option maxHeartbeats 8000000 in
set_option maxRecDepth 100000 in
theorem readAll (W0 W : World) (rb : Nat) (A : Option Addr) (D : List Int) (c : Nat) (aE : Addr) (hr : W.heap[rb]? = some (.cells (rdC A D c 0 (-1)) 212 (0, 0))) (hb : Below W0.heap.size W0 W) (hrb : W0.heap.size ≤ rb) (hC : Kd.C (Kd.int .u8) W0 A D.length D) (hc : D.length ≤ c) (hE : W0.cell? ⟨1, 0, none⟩ = some (.iface 134 (.pointer (some aE)))) (hl : D.length ≤ 900000000) :
    Calls Tryd.prog 50 #[.iface 210 (.agg #[.pointer (some ⟨rb, 0, none⟩)]), .int .i64 512] W fun e w' => ∃ B d, e = .returned (.tuple #[.slice B D.length d, .bool true]) ∧ D.length ≤ d ∧ Kd.C (Kd.int .u8) w' B D.length D ∧ Below W0.heap.size W0 w' := by
  have HE := Aside0.mk hE
  have HC := Aside0.mk hC
  have HCC := Aside0.mk hc
  have HL := Aside0.mk hl
  have HRB := Aside0.mk (And.intro hrb (And.intro hr hb))
  have hmr := fun g W => mRead 328/-FUEL-/ g W
  have heq := fun W => eqSame aE W
  obtain ⟨M, hMs, hmk⟩ := make512
  have HMS := Aside0.mk hMs
  have hmk : ∀ W : World, (Instr.makeSlice 24 (.int .i64 (max 1 512)) (.int .i64 (max 1 512))).run Tryd.prog W = .ok (.slice (some ⟨W.heap.size, 0, none⟩) 512 512) (W.alloc (.cells M 5)) := hmk
  clear hr hb hrb hC hc hE hl hMs
  go_enter Tryd.func50, Tryd.ntmps50
  go_wp2
  have HRL : Aside0 (Rl W0 (W.alloc (.cells M 5)) rb W.heap.size A D c 0 (.slice none 0 0) ∧ rb ≠ W.heap.size ∧ W0.heap.size ≤ W.heap.size ∧ W0.heap.size ≤ rb) := ⟨by
    obtain ⟨hrb, hr, hb⟩ := HRB.out
    have hlt := blk_lt hr
    have ha := below_alloc (Below.refl W.heap.size W) (.cells M 5)
    refine ⟨⟨hb.trans (ha.mono hb.size), ⟨-1, (ha.block rb hlt).trans hr⟩, ⟨M.toList, by rw [Array.length_toList]; exact HMS.out, by rw [Array.toArray_toList]; exact heap_alloc_new W _⟩, Kd.R_nil _ _ _ _ _⟩, by omega, hb.size, hrb⟩⟩
  obtain ⟨pb, hpb⟩ : ∃ pb, pb = W.heap.size := ⟨_, rfl⟩
  rw [← hpb] at HRL ⊢
  clear hpb hmk HRB
  go_loopg [6] (D.length) (fun gk v6 w' => ∃ (pos : Nat) (V : Value), v6 = V ∧ Aside0 (pos + gk = D.length) ∧ Aside0 (Rl W0 w' rb pb A D c pos V ∧ rb ≠ pb ∧ W0.heap.size ≤ pb ∧ W0.heap.size ≤ rb))
  case atStart => exact ⟨0, _, rfl, ⟨by omega⟩, HRL⟩
  case round =>
    obtain ⟨pos, V, hV, HK, HR⟩ := hrel
    replace hV := hV.symm
    subst hV
    obtain ⟨hRl, hne, hpb, hrb⟩ := HR.out
    obtain ⟨pr, hr⟩ := hRl.r
    obtain ⟨cur, hcur, hrow⟩ := hRl.p
    by_cases hpos : pos < D.length
    · obtain ⟨k, hk⟩ : ∃ k, k = min 512 (D.length - pos) := ⟨_, rfl⟩
      have HRS : Aside0 (Calls Tryd.prog 157 #[.pointer (some ⟨rb, 0, none⟩), .slice (some ⟨pb, 0, none⟩) 512 512] wr fun e w' => e = .returned (.tuple #[.int .i64 (k : Int), .nilIface]) ∧ Rd wr w' rb pb 0 A D c pos k cur 5) := ⟨readSome rb pb 0 512 512 k A c D pos pr cur 5 wr hr hrow hne (by omega) (Kd.C_below HC.out (hRl.b.mono (Nat.le_refl _))) HCC.out hpos hk⟩
      have hcut := toA (some ⟨pb, 0, none⟩) 512 512 k (by omega)
      have HKK : Aside0 (1 ≤ k ∧ k ≤ 512 ∧ pos + k ≤ D.length) := ⟨by omega⟩
      have HRX := Aside0.mk hRl
      have HNE := Aside0.mk (And.intro hne (And.intro hpb (And.intro hrb hcur)))
      clear hRl hne hpb hrb hr hrow hcur hpos hk HR pr
      go_wp2_with (first
        | (go_at_call 157
           (with_reducible refine HRS.out.mono ?_)
           rintro x w1 ⟨rfl, hrd⟩
           have HRD := Aside0.mk hrd
           clear hrd)
        | ((with_reducible refine gate_builtin (b := .append) (xs := #[.tmp 19, .tmp 22]) rfl ?_)
           at_builtin
           refine Kd.R_append_rows (Kd.int .u8) (w0 := W0) W0.heap.size rfl (.tmp 19) (.tmp 22) 24 5 (.int .u8 0) 1 rfl Tryd.underlying24 info5' rfl (by decide) (by omega) V (D.take pos) ((D.drop pos).take k) _ _ _ (fun k => k ≠ rb ∧ k ≠ pb) (fun _ => False) rfl rfl (HRX.out.far HRD.out.f HNE.out.2.2.1 HNE.out.2.1).2 ?aC (fun _ _ h => h) (fun _ h => h.elim) ?aF (HRX.out.far HRD.out.f HNE.out.2.2.1 HNE.out.2.1).1 ?aS ?aL ?_
           (case aC => exact Rl.src (W0 := W0) HRD.out HKK.out.2.1 HKK.out.2.2)
           (case aF => exact fun i hi => by have h1 := blk_lt HRD.out.g; have h2 := blk_lt HRD.out.r.choose_spec; omega)
           (case aS => exact (HRX.out.far HRD.out.f HNE.out.2.2.1 HNE.out.2.1).1.size)
           (case aL => have := HL.out; have := HKK.out; simp only [List.length_take]; omega)
           intro v1 w2 ho2 hb2 hg2 hat2
           have HO2 := Aside0.mk ho2
           have HB2 := Aside0.mk hb2
           have HG2 := Aside0.mk hg2
           clear ho2 hb2 hg2 hat2)
        | fail)
      go_roundg (D.length - (pos + k))
      case measure => have := HKK.out; have := HK.out; omega
      case rel =>
        obtain ⟨hne, hpb, hrb, hcur⟩ := HNE.out
        obtain ⟨hk1, hk2, hk3⟩ := HKK.out
        have hg := HG2.out
        have ho := HO2.out
        obtain ⟨pr1, hr1⟩ := HRD.out.r
        have hnb : ∀ i, V.ownBlock = some i → i ≠ rb ∧ i ≠ pb := HRX.out.o.1
        have hnr : some rb ≠ V.ownBlock := fun e => (hnb rb e.symm).1 rfl
        have hnp : some pb ≠ V.ownBlock := fun e => (hnb pb e.symm).2 rfl
        refine ⟨pos + k, v1, rfl, ⟨by have := HK.out; omega⟩, ⟨⟨HB2.out, ⟨pr1, (hg.block rb (blk_lt hr1) hnr).trans hr1⟩, ⟨_, ?_, (hg.block pb (blk_lt HRD.out.g) hnp).trans HRD.out.g⟩, ?_⟩, hne, hpb, hrb⟩⟩
        · have hs : (seg D pos k).length = k := seg_len D pos k (by omega)
          unfold splice
          simp only [List.take_zero, List.nil_append, List.length_append, List.length_drop, hs, Nat.zero_add]
          omega
        · rw [← take_more]
          exact ho
    · have hpe : pos = D.length := by have := HK.out; omega
      have HRS : Aside0 (Calls Tryd.prog 157 #[.pointer (some ⟨rb, 0, none⟩), .slice (some ⟨pb, 0, none⟩) 512 512] wr fun e w' => e = .returned (.tuple #[.int .i64 0, .iface 134 (.pointer (some aE))]) ∧ Same wr w') := ⟨readEnd rb 512 512 (some ⟨pb, 0, none⟩) A c D pr _ wr (by rw [← hpe]; exact hr) ((World.cell?_of_block (hRl.b.block _ (World.block_lt_of_cell? _ _ HE.out))).trans HE.out) (by have := HL.out; omega)⟩
      have hcut := toA (some ⟨pb, 0, none⟩) 512 512 0 (by omega)
      have hcut : ∀ W : World, (Instr.slice 24 (.slice (some ⟨pb, 0, none⟩) 512 512) none (some (.int .i64 0)) none).run Tryd.prog W = .ok (.slice (some ⟨pb, 0, none⟩) 0 512) W := hcut
      have HRX := Aside0.mk hRl
      have HNE := Aside0.mk (And.intro hne (And.intro hpb (And.intro hrb (And.intro hcur hpe))))
      have HRR := Aside0.mk (And.intro hr hrow)
      clear hRl hne hpb hrb hr hrow hcur hpos HR hpe
      go_wp2_with (first
        | (go_at_call 157
           (with_reducible refine HRS.out.mono ?_)
           rintro x w1 ⟨rfl, hsm⟩
           have HSM := Aside0.mk hsm
           clear hsm)
        | ((with_reducible refine gate_builtin (b := .append) (xs := #[.tmp 19, .tmp 22]) rfl ?_)
           at_builtin
           refine Kd.R_append_rows (Kd.int .u8) (w0 := W0) W0.heap.size rfl (.tmp 19) (.tmp 22) 24 5 (.int .u8 0) 1 rfl Tryd.underlying24 info5' rfl (by decide) (by omega) V (D.take pos) [] _ _ _ (fun k => k ≠ rb ∧ k ≠ pb) (fun _ => False) rfl rfl (HRX.out.far (Far.of_same HSM.out _) HNE.out.2.2.1 HNE.out.2.1).2 ?aC (fun _ _ h => h) (fun _ h => h.elim) ?aF (HRX.out.far (Far.of_same HSM.out _) HNE.out.2.2.1 HNE.out.2.1).1 ?aS ?aL ?_
           (case aC => exact ⟨rfl, by omega, fun h => absurd h (by decide)⟩)
           (case aF => exact fun i hi => by have h1 := blk_lt HRR.out.1; have h2 := blk_lt HRR.out.2; rw [HSM.out.heap] at hi; omega)
           (case aS => exact (HRX.out.far (Far.of_same HSM.out _) HNE.out.2.2.1 HNE.out.2.1).1.size)
           (case aL => have := HL.out; simp only [List.length_take]; omega)
           intro v1 w2 ho2 hb2 hg2 hat2
           have HO2 := Aside0.mk ho2
           have HB2 := Aside0.mk hb2
           have kE : w2.cell? ⟨1, 0, none⟩ = some (.iface 134 (.pointer (some aE))) := (World.cell?_of_block (hb2.block _ (World.block_lt_of_cell? _ _ HE.out))).trans HE.out
           clear ho2 hb2 hg2 hat2)
        | fail)
      go_quiet (fail)
      go_wp2
      go_ret2
      obtain ⟨B, d, rfl, hd, hBC⟩ := Kd.R_reads HO2.out
      have hD : D.take pos ++ [] = D := by rw [List.append_nil, HNE.out.2.2.2.2, List.take_length]
      rw [hD] at hd hBC
      have hn : ((D.take pos ++ ([] : List Int)).length) = D.length := by rw [hD]
      refine ⟨B, d, ?_, hd, ?_, ?_⟩
      · rw [hn]
        rfl
      · exact Kd.C_drewN hBC _
      · exact pw_below_drewN HB2.out _

set_option maxHeartbeats 8000000 in
set_option maxRecDepth 100000 in
/-- What is read of a MemoryObject, whole. -/
theorem textOf {w0 W : World} {o : Nat} {ty : Int} {l : List Int} (h : Mo w0 W o ty l) (aE : Addr) (hE : W.cell? ⟨1, 0, none⟩ = some (.iface 134 (.pointer (some aE)))) (hl : l.length ≤ 900000000) :
    Calls Tryd.prog 24 #[.iface 57 (.pointer (some ⟨o, 0, none⟩))] W fun e w' => ∃ B d, e = .returned (.tuple #[.slice B l.length d, .bool true]) ∧ l.length ≤ d ∧ Kd.C (Kd.int .u8) w' B l.length l ∧ Below W.heap.size W w' := by
  have HR := Aside0.mk (reader h)
  have HA : Aside0 (∀ (A : Option Addr) (c : Nat) (w1 : World), l.length ≤ c → Kd.C (Kd.int .u8) W A l.length l → w1.heap[W.heap.size]? = some (.cells (rdC A l c 0 (-1)) 212 (0, 0)) → Below W.heap.size W w1 → Calls Tryd.prog 50 #[.iface 210 (.agg #[.pointer (some ⟨W.heap.size, 0, none⟩)]), .int .i64 512] w1 fun e w' => ∃ B d, e = .returned (.tuple #[.slice B l.length d, .bool true]) ∧ l.length ≤ d ∧ Kd.C (Kd.int .u8) w' B l.length l ∧ Below W.heap.size W w') := ⟨fun A c w1 h1 h2 h3 h4 => readAll W w1 W.heap.size A l c aE h3 h4 (Nat.le_refl _) h2 h1 hE hl⟩
  have hmr := fun g W => mReader 328/-FUEL-/ g W
  have hmc := fun g W => mCloseN 328/-FUEL-/ g W
  clear h hE hl
  go_enter Tryd.func24, Tryd.ntmps24
  go_wp2_with (first
    | (go_at_call 127
       (with_reducible refine HR.out.mono ?_)
       rintro x w1 ⟨A, c, rfl, hc, hC, hr, hb⟩
       have HA2 := Aside0.mk (HA.out A c w1 hc hC hr hb)
       clear hc hC hr hb)
    | (go_at_call 50
       (with_reducible refine HA2.out.mono ?_)
       rintro x w2 ⟨B, d, rfl, hd, hC, hb⟩
       have HF := Aside0.mk (And.intro hd (And.intro hC hb))
       clear hd hC hb)
    | (go_at_call 159
       (with_reducible refine (closeN _ _).mono ?_)
       rintro x w3 ⟨rfl, hb⟩
       have HB3 := Aside0.mk hb
       clear hb)
    | fail)
  go_ret2
  exact ⟨B, d, rfl, HF.out.1, Kd.C_below HF.out.2.1 HB3.out, HF.out.2.2.trans (HB3.out.mono HF.out.2.2.size)⟩
end Go.Proofs.YtddnepddilbikaaDoor.ObjF
