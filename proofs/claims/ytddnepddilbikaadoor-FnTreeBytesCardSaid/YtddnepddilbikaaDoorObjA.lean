/- plumbing.MemoryObject as a writer: Write, io.WriteString. -/
import Derived.Test.YtddnepddilbikaaDoorSrtL
import Derived.Lib.ConvBytes
import Derived.Stop.Asserts
import Derived.Lib.BufferMore
set_option linter.unusedVariables false
set_option linter.unusedSimpArgs false
namespace Go.Proofs.YtddnepddilbikaaDoor.ObjA
open Go.RowKit Go.Proofs.YtddnepddilbikaaDoorW.PrintWords Go.Proofs.YtddnepddilbikaaDoor.QAll

theorem info5' : (Tryd.prog.info? 5).map (fun i => (i.zero, i.size, i.bytes)) = some (some (.int .u8 0), 1, 1) := by kernel_rfl
/-- The bytes of a text. -/
def nums (s : ByteArray) : List Int := s.data.toList.map (fun c => (c.toNat : Int))
theorem nums_len (s : ByteArray) : (nums s).length = s.size := by unfold nums; rw [List.length_map, Lib.size_eq]
theorem nums_append (a b : ByteArray) : nums (a ++ b) = nums a ++ nums b := by unfold nums; rw [ByteArray.data_append, Array.toList_append, List.map_append]
/-- The cells of a MemoryObject. -/
def mcells (ty : Int) (V : Value) (n : Nat) : Array Value := #[.int .i8 ty, .int .u8 0, .int .u8 0, .int .u8 0, .int .u8 0, .int .u8 0, .int .u8 0, .int .u8 0, .int .u8 0, .int .u8 0, .int .u8 0, .int .u8 0, .int .u8 0, .int .u8 0, .int .u8 0, .int .u8 0, .int .u8 0, .int .u8 0, .int .u8 0, .int .u8 0, .int .u8 0, V, .int .i64 (n : Int)]
/-- A MemoryObject, of a type, with a content. -/
def Mo (w0 W : World) (o : Nat) (ty : Int) (l : List Int) : Prop :=
  ∃ V, W.heap[o]? = some (.cells (mcells ty V l.length) 61 (0, 0)) ∧ Kd.R (Kd.int .u8) 5 W w0.heap.size (fun k => k ≠ o) V l ∧ Below w0.heap.size w0 W ∧ w0.heap.size ≤ o
/-- All other rows that are no rows of bytes are as they were. -/
def Kp (o : Nat) (W W' : World) : Prop := W.heap.size ≤ W'.heap.size ∧ ∀ (k : Nat) (cs : Array Value) (t : TypeId), k ≠ o → t ≠ 5 → W.heap[k]? = some (.cells cs t (0, 0)) → W'.heap[k]? = some (.cells cs t (0, 0))
theorem Kp.refl (o : Nat) (W : World) : Kp o W W := ⟨Nat.le_refl _, fun _ _ _ _ _ h => h⟩
theorem Kp.trans {o : Nat} {W W1 W2 : World} (h : Kp o W W1) (k : Kp o W1 W2) : Kp o W W2 := ⟨Nat.le_trans h.1 k.1, fun a cs t h1 h2 h3 => k.2 a cs t h1 h2 (h.2 a cs t h1 h2 h3)⟩
theorem Kp.below {o : Nat} {W W' : World} (h : Below W.heap.size W W') : Kp o W W' := ⟨h.size, fun k cs t _ _ hk => (h.block k (blk_lt hk)).trans hk⟩
theorem Kp.cell {o : Nat} {W W' : World} (h : Kp o W W') {k i : Nat} {cs : Array Value} {t : TypeId} (hk : k ≠ o) (ht : t ≠ 5) (hr : W.heap[k]? = some (.cells cs t (0, 0))) : W'.cell? ⟨k, i, none⟩ = cs[i]? := Lib.cell_of_heap (h.2 k cs t hk ht hr) i
theorem Mo.below {w0 W W' : World} {o : Nat} {ty : Int} {l : List Int} (h : Mo w0 W o ty l) (hb : Below W.heap.size W W') : Mo w0 W' o ty l := by
  obtain ⟨V, h1, h2, h3, h4⟩ := h
  exact ⟨V, (hb.block o (blk_lt h1)).trans h1, Kd.R_below h2 hb, h3.trans (hb.mono h3.size), h4⟩
theorem Mo.bel {w0 W : World} {o : Nat} {ty : Int} {l : List Int} (h : Mo w0 W o ty l) : Below w0.heap.size w0 W := h.choose_spec.2.2.1
theorem Mo.lt {w0 W : World} {o : Nat} {ty : Int} {l : List Int} (h : Mo w0 W o ty l) : o < W.heap.size := blk_lt h.choose_spec.1

set_option maxHeartbeats 8000000 in
set_option maxRecDepth 100000 in
theorem write {w0 W : World} {o : Nat} {ty : Int} {l : List Int} (h : Mo w0 W o ty l) (p : List Int) (A : Option Addr) (n c : Nat) (hn : n = p.length) (hC : Kd.C (Kd.int .u8) W A n p) (hl : l.length + p.length ≤ 1000000000) :
    Calls Tryd.prog 130 #[.pointer (some ⟨o, 0, none⟩), .slice A n c] W fun e w' => e = .returned (.tuple #[.int .i64 (n : Nat), .nilIface]) ∧ Mo w0 w' o ty (l ++ p) ∧ Kp o W w' := by
  subst hn
  obtain ⟨V, h1, h2, h3, h4⟩ := h
  have c21 : W.cell? ⟨o, 21, none⟩ = some V := (Lib.cell_of_heap h1 21).trans rfl
  have H1 := Aside0.mk h1
  have H2 := Aside0.mk h2
  have H3 := Aside0.mk h3
  have H4 := Aside0.mk h4
  have HL := Aside0.mk hl
  have HC := Aside0.mk hC
  have hll : (l.length : Int) + (p.length : Int) ≤ 1000000000 := by omega
  clear h1 h2 h3 h4 hl hC
  go_enter Tryd.func130, Tryd.ntmps130
  go_wp2_with (first
    | ((with_reducible refine gate_builtin (b := .append) (xs := #[.tmp 10, .tmp 11]) rfl ?_)
       at_builtin
       refine Kd.R_append_rows (Kd.int .u8) (w0 := w0) w0.heap.size rfl (.tmp 10) (.tmp 11) 24 5 (.int .u8 0) 1 rfl Tryd.underlying24 info5' rfl (by decide) (by omega) V l p _ _ _ (fun k => k ≠ o) (fun _ => False) rfl rfl H2.out HC.out (fun _ _ h => h) (fun _ h => h.elim) (fun k hk => by have := blk_lt H1.out; omega) H3.out H3.out.size ?aL ?_
       (case aL => have := HL.out; omega)
       intro v1 w1 ho1 hb1 hg1 hat1
       have HO1 := Aside0.mk ho1
       have HB1 := Aside0.mk hb1
       have HG1 := Aside0.mk hg1
       obtain ⟨A1, c1, rfl, hc1, hC1⟩ := Kd.R_reads ho1
       have hr1 : w1.heap[o]? = some (.cells (mcells ty V l.length) 61 (0, 0)) := (hg1.block o (blk_lt H1.out) (fun e => H2.out.1 o e.symm rfl)).trans H1.out
       have HR1 := Aside0.mk hr1
       have f21 := Lib.frozen_of_heap hr1 21
       have k21 : w1.cell? ⟨o, 21, none⟩ = some V := (Lib.cell_of_heap hr1 21).trans rfl
       have hr2 := Lib.heap_setCell_same (i := 21) hr1 (.slice A1 (l.length + p.length) c1)
       have g21 : (w1.setCell ⟨o, 21, none⟩ (.slice A1 (l.length + p.length) c1)).cell? ⟨o, 21, none⟩ = some (.slice A1 (l.length + p.length) c1) := (Lib.cell_of_heap hr2 21).trans rfl
       have g22 : (w1.setCell ⟨o, 21, none⟩ (.slice A1 (l.length + p.length) c1)).cell? ⟨o, 22, none⟩ = some (.int .i64 (l.length : Nat)) := (Lib.cell_of_heap hr2 22).trans rfl
       have f22 := Lib.frozen_of_heap hr2 22
       clear ho1 hb1 hg1 hat1 hr1 hr2 hc1 hC1)
    | fail)
  go_ret2
  obtain ⟨hb1, hg1, ho1, hr1⟩ := And.intro HB1.out (And.intro HG1.out (And.intro HO1.out HR1.out))
  have hr2 := Lib.heap_setCell_same (i := 21) hr1 (.slice A1 (l.length + p.length) c1)
  have hr3 := Lib.heap_setCell_same (i := 22) hr2 (.int .i64 ((l.length : Int) + (p.length : Int)))
  have hlen : (l ++ p).length = l.length + p.length := List.length_append
  have hoth : ∀ k, k ≠ o → ((w1.setCell ⟨o, 21, none⟩ (.slice A1 (l.length + p.length) c1)).setCell ⟨o, 22, none⟩ (.int .i64 ((l.length : Int) + (p.length : Int)))).heap[k]? = w1.heap[k]? := fun k hk => (Below.heap_setCell _ ⟨o, 22, none⟩ _ k hk).trans (Below.heap_setCell _ ⟨o, 21, none⟩ _ k hk)
  have hsz : ((w1.setCell ⟨o, 21, none⟩ (.slice A1 (l.length + p.length) c1)).setCell ⟨o, 22, none⟩ (.int .i64 ((l.length : Int) + (p.length : Int)))).heap.size = w1.heap.size := by simp [World.setCell]
  refine ⟨rfl, ⟨.slice A1 (l.length + p.length) c1, ?_, ?_, ?_, H4.out⟩, ?_⟩
  · rw [hr3, hlen]
    rfl
  · rw [hlen] at ho1
    exact Kd.R_move ho1 (fun k hk => hoth k hk)
  · exact (hb1.setCell (p := ⟨o, 21, none⟩) H4.out _).setCell (p := ⟨o, 22, none⟩) H4.out _
  · refine ⟨by rw [hsz]; exact hg1.size, fun k cs t hk ht hr => (hoth k hk).trans ((hg1.block k (blk_lt hr) ?_).trans hr)⟩
    intro e
    obtain ⟨_, _, _, q, hq, cells, hc⟩ := (Kd.R_bound H2.out).1 k e.symm
    rw [hr] at hc
    injection hc with hc
    injection hc with _ hc _
    rcases List.mem_cons.1 hq with rfl | hq
    · exact ht hc
    · cases hq

theorem und9 : Tryd.prog.underlying 9 = some .string := by kernel_rfl
theorem und5 : Tryd.prog.underlying 5 = some (.int .u8) := by kernel_rfl
theorem und57 : Tryd.prog.underlying 57 = some (.pointer 61) := by kernel_rfl
theorem found57 (nm : String) (f : Nat) (h : (Tryd.prog.info? 57).map (fun i => (i.methods.find? (fun m => m.name == nm)).map (fun m => (m.path, m.func))) = some (some (#[], some (f, true)))) (n g : Nat) (W : World) : (method (n + 1) 57 (.pointer (some ⟨g, 0, none⟩)) nm).run Tryd.prog W = .ok (f, .pointer (some ⟨g, 0, none⟩)) W := by
  obtain ⟨i, hi, h1⟩ := Option.map_eq_some_iff.1 h
  obtain ⟨m, hm, h2⟩ := Option.map_eq_some_iff.1 h1
  simp only [Prod.mk.injEq] at h2
  unfold method
  simp [typeInfo, hi, hm, h2.1, h2.2, follow, receiverAt, Place.get, und57]
theorem mWrite (n g : Nat) (W : World) : (method (n + 1) 57 (.pointer (some ⟨g, 0, none⟩)) "Write").run Tryd.prog W = .ok (130, .pointer (some ⟨g, 0, none⟩)) W := found57 "Write" 130 (by kernel_rfl) n g W
theorem mClose (n g : Nat) (W : World) : (method (n + 1) 57 (.pointer (some ⟨g, 0, none⟩)) "Close").run Tryd.prog W = .ok (126, .pointer (some ⟨g, 0, none⟩)) W := found57 "Close" 126 (by kernel_rfl) n g W
theorem mSetType (n g : Nat) (W : World) : (method (n + 1) 57 (.pointer (some ⟨g, 0, none⟩)) "SetType").run Tryd.prog W = .ok (129, .pointer (some ⟨g, 0, none⟩)) W := found57 "SetType" 129 (by kernel_rfl) n g W
theorem mWriter (n g : Nat) (W : World) : (method (n + 1) 57 (.pointer (some ⟨g, 0, none⟩)) "Writer").run Tryd.prog W = .ok (131, .pointer (some ⟨g, 0, none⟩)) W := found57 "Writer" 131 (by kernel_rfl) n g W
theorem mReader (n g : Nat) (W : World) : (method (n + 1) 57 (.pointer (some ⟨g, 0, none⟩)) "Reader").run Tryd.prog W = .ok (127, .pointer (some ⟨g, 0, none⟩)) W := found57 "Reader" 127 (by kernel_rfl) n g W
theorem noWS (v : Value) (W : World) : (Instr.typeAssert (.iface 57 v) 138 140 true).run Tryd.prog W = .ok (.tuple #[.nilIface, .bool false]) W := run_typeAssert_lacksB Tryd.underlying140 (by kernel_rfl) (by kernel_rfl) v 138 W
theorem C_blk {w : World} {g off t : Nat} {fr : Nat × Nat} {cur : List Value} {xs : List Int} (hg : w.heap[g]? = some (.cells cur.toArray t fr)) (hn : xs.length ≤ 9223372036854775807) (h : ∀ j x, xs[j]? = some x → cur[off + j]? = some (.int .u8 x)) : Kd.C (Kd.int .u8) w (some ⟨g, off, none⟩) xs.length xs := by
  refine ⟨rfl, hn, fun _ => ⟨_, rfl, fun j p hp => ⟨[.int .u8 p], rfl, rfl, fun i u hu => ?_⟩⟩⟩
  match i, hu with
  | 0, hu =>
    cases hu
    have e : (⟨g, off, none⟩ : Addr).add (j * 1 + 0) = ⟨g, off + j, none⟩ := by unfold Addr.add; split <;> simp_all
    show w.cell? ((⟨g, off, none⟩ : Addr).add (j * 1 + 0)) = _
    rw [e, cell_of_row w g _ cur.toArray t fr hg]
    simpa using h j p hp
  | i + 1, hu => simp at hu
theorem bytesW_C (W : World) (s : ByteArray) (hs : s.size ≤ 9223372036854775807) : Kd.C (Kd.int .u8) (Lib.bytesWorld W 5 s) (some ⟨W.heap.size, 0, none⟩) s.size (nums s) ∧ Below W.heap.size W (Lib.bytesWorld W 5 s) := by
  refine ⟨?_, ⟨rfl, rfl, rfl, by rw [Lib.bytesWorld_size]; omega, fun k hk => Lib.bytesWorld_at_old W 5 s k hk⟩⟩
  rw [← nums_len]
  refine C_blk (cur := (Lib.bytesCells W 5 s).toList) (t := 5) (by rw [Array.toArray_toList]; exact Lib.bytesWorld_at_new W 5 s) (by rw [nums_len]; exact hs) (fun j x hx => ?_)
  have hj : j < s.size := by have := (List.getElem?_eq_some_iff.1 hx).1; rwa [nums_len] at this
  have h1 := Lib.bytesWorld_cell W 5 s j hj
  rw [cell_of_row _ _ _ _ _ _ (Lib.bytesWorld_at_new W 5 s)] at h1
  rw [Nat.zero_add, Array.getElem?_toList, h1]
  unfold nums at hx
  rw [List.getElem?_map] at hx
  obtain ⟨c, hc, rfl⟩ := Option.map_eq_some_iff.1 hx
  rw [List.getD_eq_getElem?_getD, hc]
  rfl

set_option maxHeartbeats 8000000 in
set_option maxRecDepth 100000 in
theorem writeString {w0 W : World} {o : Nat} {ty : Int} {l : List Int} (h : Mo w0 W o ty l) (s : ByteArray) (hl : l.length + s.size ≤ 1000000000) :
    Calls Tryd.prog 48 #[.iface 57 (.pointer (some ⟨o, 0, none⟩)), .string s] W fun e w' => e = .returned (.tuple #[.int .i64 (s.size : Nat), .nilIface]) ∧ Mo w0 w' o ty (l ++ nums s) ∧ Kp o W w' := by
  have HM := Aside0.mk h
  have HL := Aside0.mk hl
  have hmw := fun g W => mWrite 328/-FUEL-/ g W
  have hcv := fun W => Lib.run_convert_string_bytes W 9 24 5 s und9 Tryd.underlying24 und5
  have hta := fun W => noWS (.pointer (some ⟨o, 0, none⟩)) W
  clear h hl
  have HW : Aside0 (∀ c, Calls Tryd.prog 130 #[.pointer (some ⟨o, 0, none⟩), .slice (some ⟨W.heap.size, 0, none⟩) s.size c] (Lib.bytesWorld W 5 s) fun e w' => e = .returned (.tuple #[.int .i64 (s.size : Nat), .nilIface]) ∧ Mo w0 w' o ty (l ++ nums s) ∧ Kp o W w') := ⟨fun c => by
    obtain ⟨h1, h2⟩ := bytesW_C W s (by have := HL.out; omega)
    refine (write (HM.out.below h2) (nums s) _ s.size c (nums_len s).symm h1 (by rw [nums_len]; exact HL.out)).mono ?_
    rintro e w' ⟨rfl, k1, k2⟩
    exact ⟨rfl, k1, (Kp.below h2).trans k2⟩⟩
  go_enter Tryd.func48, Tryd.ntmps48
  go_wp2_with (first
    | (go_at_call 130
       (with_reducible refine (HW.out _).mono ?_)
       rintro x w1 ⟨rfl, k1, k2⟩
       have K1 := Aside0.mk k1
       have K2 := Aside0.mk k2
       clear k1 k2)
    | fail)
  go_ret2
  exact ⟨rfl, K1.out, K2.out⟩

set_option maxHeartbeats 4000000 in
set_option maxRecDepth 100000 in
theorem setType {w0 W : World} {o : Nat} {ty : Int} {l : List Int} (h : Mo w0 W o ty l) (ty2 : Int) :
    Calls Tryd.prog 129 #[.pointer (some ⟨o, 0, none⟩), .int .i8 ty2] W fun e w' => e = .returned (.tuple #[]) ∧ Mo w0 w' o ty2 l ∧ Kp o W w' := by
  obtain ⟨V, h1, h2, h3, h4⟩ := h
  have c0 : W.cell? ⟨o, 0, none⟩ = some (.int .i8 ty) := (Lib.cell_of_heap h1 0).trans rfl
  have f0 := Lib.frozen_of_heap h1 0
  have hr := Lib.heap_setCell_same (i := 0) h1 (.int .i8 ty2)
  have HF : Aside0 (Mo w0 (W.setCell ⟨o, 0, none⟩ (.int .i8 ty2)) o ty2 l ∧ Kp o W (W.setCell ⟨o, 0, none⟩ (.int .i8 ty2))) := ⟨⟨V, by rw [hr]; rfl, Kd.R_move h2 (fun k hk => Below.heap_setCell W ⟨o, 0, none⟩ _ k hk), h3.setCell (p := ⟨o, 0, none⟩) h4 _, h4⟩, by simp [World.setCell], fun k cs t hk ht hr2 => (Below.heap_setCell W ⟨o, 0, none⟩ _ k hk).trans hr2⟩
  clear h1 h2 h3 h4 hr
  go_enter Tryd.func129, Tryd.ntmps129
  go_wp2
  go_end0
  exact ⟨rfl, HF.out.1, HF.out.2⟩
set_option maxHeartbeats 4000000 in
set_option maxRecDepth 100000 in
theorem writer (o : Nat) (W : World) : Calls Tryd.prog 131 #[.pointer (some ⟨o, 0, none⟩)] W fun e w' => e = .returned (.tuple #[.iface 57 (.pointer (some ⟨o, 0, none⟩)), .nilIface]) ∧ w' = W := by
  go_enter Tryd.func131, Tryd.ntmps131
  go_wp2
  go_ret2
  exact ⟨rfl, rfl⟩
set_option maxHeartbeats 4000000 in
set_option maxRecDepth 100000 in
theorem close (o : Nat) (W : World) : Calls Tryd.prog 126 #[.pointer (some ⟨o, 0, none⟩)] W fun e w' => e = .returned .nilIface ∧ w' = W := by
  go_enter Tryd.func126, Tryd.ntmps126
  go_wp2
  go_ret
  exact ⟨rfl, rfl⟩
end Go.Proofs.YtddnepddilbikaaDoor.ObjA
