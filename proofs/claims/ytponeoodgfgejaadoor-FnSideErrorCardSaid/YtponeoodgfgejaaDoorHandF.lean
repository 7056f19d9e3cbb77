/- What Scanner.Scan needs: the payload's row, bytes.HasPrefix, pktline.errPrefix. -/
import Derived.Test.YtponeoodgfgejaaDoorHandD
import Derived.Lib.SlBytesConst
set_option linter.unusedVariables false
set_option linter.unusedSimpArgs false
namespace Go.Proofs.YtponeoodgfgejaaDoor.HandF
open Go.RowKit Go.Proofs.YtponeoodgfgejaaDoorW.PrintWords Go.Proofs.YtponeoodgfgejaaDoorW.PrintLast Go.Proofs.YtponeoodgfgejaaDoorW.PrintMore Go.Proofs.YtponeoodgfgejaaDoor.QAll Txt PureA HandA HandB HandC HandD HandE

/-- Bytes that lie in a block are read there. -/
theorem C_blk {w : World} {g off t : Nat} {fr : Nat × Nat} {cur : List Value} {xs : List Int} (hg : w.heap[g]? = some (.cells cur.toArray t fr)) (hn : xs.length ≤ 9223372036854775807) (h : ∀ j x, xs[j]? = some x → cur[off + j]? = some (.int .u8 x)) : Kd.C (Kd.int .u8) w (some ⟨g, off, none⟩) xs.length xs := by
  refine ⟨rfl, hn, fun _ => ⟨_, rfl, fun j p hp => ⟨[.int .u8 p], rfl, rfl, fun i u hu => ?_⟩⟩⟩
  match i, hu with
  | 0, hu =>
    cases hu
    have e : (⟨g, off, none⟩ : Addr).add (j * 1 + 0) = ⟨g, off + j, none⟩ := by unfold Addr.add; split <;> simp_all
    show w.cell? ((⟨g, off, none⟩ : Addr).add (j * 1 + 0)) = _
    rw [e, cell_of_row w g _ cur.toArray t fr hg]
    simpa using h j p hp
  | i + 1, hu => simp at hu
theorem toA (X : Option Addr) (n cb l : Nat) (h : l ≤ cb) : ∀ W : World, (Instr.slice 25 (.slice X n cb) none (some (.int .i64 (l : Int))) none).run Tryd.prog W = .ok (.slice X l cb) W := by
  obtain ⟨i, hi, _, hsz, _⟩ := info_parts (show (Tryd.prog.info? 5).map (fun i => (i.zero, i.size, i.bytes)) = some (some (.int .u8 0), 1, 1) by kernel_rfl)
  intro W
  have hel : Tryd.prog.elem 25 = 5 := by simp [Program.elem, Tryd.underlying25]
  have hu : Tryd.prog.underlying 25 = some (.slice (Tryd.prog.elem 25)) := by rw [hel]; exact Tryd.underlying25
  have ha : (X.map fun x => x.add 0) = X := by cases X <;> simp [Addr.add]
  rw [run_slice_h W 25 X n cb hu .i64 (l : Int) (Int.natCast_nonneg _) (by omega), hel]
  simp [sizeOf, typeInfo, hi, hsz, sliced, Result.andThen, ha]
/-- The row of a Scanner's payload. -/
structure Pay (B : Nat) (w : World) (sc rb : Nat) (X : Option Addr) (n cb : Nat) : Prop where
  z : X = none → cb = 0
  s : ∀ ad, X = some ad → ∃ g cur, ad = ⟨g, 0, none⟩ ∧ w.heap[g]? = some (.cells cur 5 (0, 0)) ∧ cur.size = cb ∧ B ≤ g ∧ g ≠ sc ∧ g ≠ rb
  n : n ≤ cb
theorem Pay.far {B : Nat} {w w' : World} {sc rb : Nat} {X : Option Addr} {n cb : Nat} (h : Pay B w sc rb X n cb) (hf : Far w w' (fun i => i = sc ∨ i = rb)) : Pay B w' sc rb X n cb :=
  ⟨h.z, fun ad e => by
    obtain ⟨g, cur, e1, e2, e3, e4, e5, e6⟩ := h.s ad e
    exact ⟨g, cur, e1, hf.keep e2 (fun q => by rcases q with q | q; exact e5 q; exact e6 q), e3, e4, e5, e6⟩, h.n⟩
theorem St_err {w0 w : World} {sc rb : Nat} {A : Option Addr} {D : List Int} {c pos : Nat} {eV PV : Value} {ds : List Value} (h : St w0 w sc rb A D c pos eV PV ds) (v : Value) : St w0 (w.setCell ⟨sc, 1, none⟩ v) sc rb A D c pos v PV ds := by
  obtain ⟨pr, hr⟩ := h.r
  exact ⟨h.b.setCell (by exact h.bs) _, blk_put h.s 1 _ rfl, ⟨pr, blk_far hr (by exact h.ne) _⟩, h.ne, h.bs, h.br, h.dl⟩
theorem St_pay {w0 w : World} {sc rb : Nat} {A : Option Addr} {D : List Int} {c pos : Nat} {eV PV : Value} {ds : List Value} (h : St w0 w sc rb A D c pos eV PV ds) (v : Value) : St w0 (w.setCell ⟨sc, 2, none⟩ v) sc rb A D c pos eV v ds := by
  obtain ⟨pr, hr⟩ := h.r
  exact ⟨h.b.setCell (by exact h.bs) _, blk_put h.s 2 _ rfl, ⟨pr, blk_far hr (by exact h.ne) _⟩, h.ne, h.bs, h.br, h.dl⟩
theorem St_cells {w0 w : World} {sc rb : Nat} {A : Option Addr} {D : List Int} {c pos : Nat} {eV PV : Value} {ds : List Value} (h : St w0 w sc rb A D c pos eV PV ds) : w.cell? ⟨sc, 0, none⟩ = some (.iface 69 (.pointer (some ⟨rb, 0, none⟩))) ∧ w.cell? ⟨sc, 1, none⟩ = some eV ∧ w.cell? ⟨sc, 2, none⟩ = some PV ∧ w.frozen? ⟨sc, 1, none⟩ = false ∧ w.frozen? ⟨sc, 2, none⟩ = false :=
  ⟨(blk_cell h.s 0).trans rfl, (blk_cell h.s 1).trans rfl, (blk_cell h.s 2).trans rfl, blk_frozen h.s 1, blk_frozen h.s 2⟩
/-- Behind a read of a payload. -/
theorem St_body {w0 w w' : World} {sc rb g off : Nat} {A : Option Addr} {D : List Int} {c pos k t : Nat} {eV PV : Value} {ds cur : List Value} (h : St w0 w sc rb A D c pos eV PV ds) (hr : Rd w w' rb g off A D c pos k cur t) (hg : g ≠ sc) (hb : w0.heap.size ≤ g) : St w0 w' sc rb A D c (pos + k) eV PV ds :=
  ⟨h.b.trans (hr.f.below h.b.size (fun i hi => by rcases hi with rfl | rfl; exact hb; exact h.br)), hr.f.keep h.s (fun q => by rcases q with q | q; exact hg q.symm; exact h.ne q.symm), hr.r, h.ne, h.bs, h.br, h.dl⟩
theorem make5 (l : Nat) (hl : l ≤ 65516) : ∃ M : Array Value, M.size = l ∧ ∀ W : World, (Instr.makeSlice 25 (.int .i64 0) (.int .i64 (l : Int))).run Tryd.prog W = .ok (.slice (some ⟨W.heap.size, 0, none⟩) 0 l) (W.alloc (.cells M 5)) := by
  obtain ⟨i0, hi, hz0, hz1, hz2⟩ := info_parts (show (Tryd.prog.info? 5).map (fun i => (i.zero, i.size, i.bytes)) = some (some (.int .u8 0), 1, 1) by kernel_rfl)
  refine ⟨madeCells (Value.int .u8 0).cells ((l : Int).toNat * i0.size), by rw [size_madeCells, hz1, Int.toNat_natCast]; show l * 1 = l; omega, fun W => ?_⟩
  have h := run_makeSlice (P := Tryd.prog) W 25 5 i0 (.int .u8 0) Tryd.underlying25 hi hz0 .i64 .i64 0 (l : Int) (by omega) (by omega) (by rw [hz1]; omega) (by rw [hz2]; omega) (by omega)
  simpa using h
set_option maxHeartbeats 4000000 in
set_option maxRecDepth 100000 in
theorem errPre (w : World) : Calls Tryd.prog 44 #[] w fun e w' => ∃ A, e = .returned (.slice A 4 4) ∧ Kd.C (Kd.int .u8) w' A 4 [69, 82, 82, 32] ∧ Below w.heap.size w w' := by
  have kc := fun (w : World) (C : Array Value) (n c : Nat) => Lib.run_convert_bytes_const (P := Tryd.prog) w 25 5 C n c Tryd.underlying25 Tryd.underlying5
  go_enter Tryd.func44, Tryd.ntmps44
  go_wp2
  go_ret
  refine ⟨_, rfl, ?_, below_alloc (Below.refl _ _) _⟩
  exact C_blk (xs := [69, 82, 82, 32]) (cur := [.int .u8 69, .int .u8 82, .int .u8 82, .int .u8 32]) (blk_new _ _) (by decide) (fun j x hx => by
    match j, hx with
    | 0, hx => cases hx; rfl
    | 1, hx => cases hx; rfl
    | 2, hx => cases hx; rfl
    | 3, hx => cases hx; rfl
    | j + 4, hx => simp at hx)
set_option maxHeartbeats 4000000 in
set_option maxRecDepth 100000 in
theorem noPre (A0 A1 : Option Addr) (c0 : Nat) (l0 : List Int) (w : World) (h0 : Kd.C (Kd.int .u8) w A0 l0.length l0) (hc0 : l0.length ≤ c0) (h1 : Kd.C (Kd.int .u8) w A1 4 [69, 82, 82, 32]) (hno : ¬ (strOfNums (l0.take 4)).toList = (strOfNums [69, 82, 82, 32]).toList) :
    Calls Tryd.prog 43 #[.slice A0 l0.length c0, .slice A1 4 4] w fun e w' => e = .returned (.bool false) ∧ Drawn0 w w' := by
  by_cases c3 : l0.length < 4
  · have d1 : decide (4 ≤ l0.length) = false := decide_eq_false (by omega)
    have d2 : decide (4 ≤ (l0.length : Int)) = false := decide_eq_false (by omega)
    clear h0 h1
    go_enter Tryd.func43, Tryd.ntmps43
    go_wp2
    go_ret
    exact ⟨rfl, Drawn0.refl _⟩
  · have d1 : decide (4 ≤ l0.length) = true := decide_eq_true (by omega)
    have d2 : decide (4 ≤ (l0.length : Int)) = true := decide_eq_true (by omega)
    have hcut := toA A0 l0.length c0 4 (by omega)
    have HE := Aside0.mk (fun W (hb : Below w.heap.size w W) => bytes_Equal.calls A0 c0 (l0.take 4) A1 4 [69, 82, 82, 32] false W (by
      exact Kd.C_of_reads (h1 := fun _ => rfl) (d := (0 : Int)) (by rw [List.length_take, Nat.min_eq_left (by omega)]; exact (Kd.reads_of_C (d := (0 : Int)) (Kd.C_below h0 hb)).take_ 4 (by omega))) (by rw [List.length_take]; omega) (Kd.C_below h1 hb) (Nat.le_refl _) (by unfold bytes_Equal.f; simpa using hno))
    rw [List.length_take, Nat.min_eq_left (by omega)] at HE
    have HE2 : Aside0 (∀ W, Below w.heap.size w W → Calls Tryd.prog 55 #[.slice A0 4 c0, .slice A1 4 4] W fun e w' => e = .returned (.bool false) ∧ Drawn0 W w') := ⟨HE.out⟩
    clear HE
    clear h0 h1
    go_enter Tryd.func43, Tryd.ntmps43
    go_wp2_with (first | (go_at_call 55; (with_reducible refine (HE2.out _ (Below.refl _ _)).mono ?_); rintro e w1 ⟨rfl, HQ⟩; have HQ2 := Aside0.mk HQ; clear HQ))
    go_ret
    exact ⟨rfl, HQ2.out⟩
#print axioms errPre
#print axioms noPre
end Go.Proofs.YtponeoodgfgejaaDoor.HandF
