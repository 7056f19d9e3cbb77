/- SHA-1: rows of words in blocks of their own; the step over one block of 64 bytes, walked. -/
import Derived.Test.YthpoiceceogdhaaDoorQAllx0
import Derived.Lib.BufferOwn
import Derived.Lib.BufferGrow
import Derived.Lib.BufferRead
import Derived.Lib.BufferSrc
import Derived.Deep.RegionWith
import Derived.StillTailTactics
set_option linter.unusedVariables false
set_option linter.unusedSimpArgs false
namespace Go.Proofs.YthpoiceceogdhaaDoor.ShaA
open Go.RowKit Go.Proofs.YthpoiceceogdhaaDoorW.PrintWords Go.Proofs.YthpoiceceogdhaaDoor.QAll

/-- Nothing but the blocks of S has turned. -/
structure Off (w w' : World) (S : Nat → Prop) : Prop where
  zero : Below 0 w w'
  blk : ∀ k, k < w.heap.size → ¬ S k → w'.heap[k]? = w.heap[k]?
theorem Off.refl (w : World) (S : Nat → Prop) : Off w w S := ⟨Below.refl 0 w, fun _ _ _ => rfl⟩
theorem Off.trans {w w1 w2 : World} {S S2 : Nat → Prop} (h : Off w w1 S) (h2 : Off w1 w2 S2) (hS : ∀ k, k < w.heap.size → S2 k → S k) : Off w w2 S :=
  ⟨h.zero.trans h2.zero, fun k hk hn => (h2.blk k (Nat.lt_of_lt_of_le hk h.zero.size) (fun hs => hn (hS k hk hs))).trans (h.blk k hk hn)⟩
theorem Off.mono {w w1 : World} {S S2 : Nat → Prop} (h : Off w w1 S) (hS : ∀ k, k < w.heap.size → S k → S2 k) : Off w w1 S2 := ⟨h.zero, fun k hk hn => h.blk k hk (fun hs => hn (hS k hk hs))⟩
theorem Off.below {w w1 : World} {S : Nat → Prop} {B : Nat} (h : Off w w1 S) (hB : B ≤ w.heap.size) (hS : ∀ k, S k → B ≤ k) : Below B w w1 :=
  ⟨h.zero.os, h.zero.tape, h.zero.output, h.zero.size, fun k hk => h.blk k (by omega) (fun hs => by have := hS k hs; omega)⟩
theorem Off.of_below {w w1 : World} (h : Below w.heap.size w w1) (S : Nat → Prop) : Off w w1 S := ⟨⟨h.os, h.tape, h.output, h.size, fun k hk => by omega⟩, fun k hk _ => h.block k hk⟩
theorem Off.of_grown {w w1 : World} {b : Nat} (h : w.grownBy w1 (some b)) : Off w w1 (fun k => k = b) := ⟨⟨h.os, h.tape, h.output, h.size, fun k hk => by omega⟩, fun k hk hn => h.block k hk (fun e => hn (Option.some.inj e))⟩
theorem Off.set (w : World) (b i : Nat) (v : Value) : Off w (w.setCell ⟨b, i, none⟩ v) (fun k => k = b) :=
  ⟨(Below.refl 0 w).setCell (p := ⟨b, i, none⟩) (Nat.zero_le _) v, fun k hk hn => Below.heap_setCell w ⟨b, i, none⟩ v k hn⟩
theorem Off.drewN (w : World) (q : Nat) (S : Nat → Prop) : Off w (w.drewN q) S := ⟨⟨rfl, rfl, rfl, Nat.le_refl _, fun _ _ => rfl⟩, fun _ _ _ => rfl⟩
theorem Off.drew (w : World) (S : Nat → Prop) : Off w w.drew S := ⟨⟨rfl, rfl, rfl, Nat.le_refl _, fun _ _ => rfl⟩, fun _ _ _ => rfl⟩
theorem Off.setN {w wd : World} {S : Nat → Prop} (h : Off w wd S) {z : Nat} (hz : z = w.heap.size) (i : Nat) (v : Value) : Off w (wd.setCell ⟨z, i, none⟩ v) S :=
  h.trans (Off.set wd z i v) (fun k hk e => absurd (show k = z from e) (by omega))
theorem keep {w wd : World} {k z : Nat} (h : wd.heap[k]? = w.heap[k]?) (hk : k < w.heap.size) (hz : z = w.heap.size) (i : Nat) (v : Value) : (wd.setCell ⟨z, i, none⟩ v).heap[k]? = w.heap[k]? :=
  (Below.heap_setCell wd ⟨z, i, none⟩ v k (by show k ≠ z; omega)).trans h

/-- A row of words in a block of its own. -/
def W32 (w : World) (g : Nat) (t : TypeId) (l : List Nat) : Prop := w.heap[g]? = some (.cells (l.map (fun n : Nat => Value.int .u32 (n : Int))).toArray t (0, 0))
theorem W32.lt {w : World} {g : Nat} {t : TypeId} {l : List Nat} (h : W32 w g t l) : g < w.heap.size := Lib.lt_of_heap h
theorem W32.cell {w : World} {g : Nat} {t : TypeId} {l : List Nat} (h : W32 w g t l) (i n : Nat) (hi : l[i]? = some n) : w.cell? ⟨g, i, none⟩ = some (.int .u32 (n : Int)) := by
  rw [Lib.cell_of_heap h]; simp [hi]
theorem W32.frozen {w : World} {g : Nat} {t : TypeId} {l : List Nat} (h : W32 w g t l) (i : Nat) : w.frozen? ⟨g, i, none⟩ = false := Lib.frozen_of_heap h i
theorem W32.set {w : World} {g : Nat} {t : TypeId} {l : List Nat} (h : W32 w g t l) (i n : Nat) : W32 (w.setCell ⟨g, i, none⟩ (.int .u32 (n : Int))) g t (l.set i n) := by
  refine (Lib.heap_setCell_same (i := i) h _).trans ?_
  congr 2
  simp [List.map_set]
theorem W32.other {w : World} {g : Nat} {t : TypeId} {l : List Nat} (h : W32 w g t l) (b i : Nat) (v : Value) (hb : g ≠ b) : W32 (w.setCell ⟨b, i, none⟩ v) g t l := (Below.heap_setCell _ _ _ _ hb).trans h
theorem W32.off {w w' : World} {S : Nat → Prop} {g : Nat} {t : TypeId} {l : List Nat} (h : W32 w g t l) (ho : Off w w' S) (hb : ¬ S g) : W32 w' g t l := (ho.blk g h.lt hb).trans h

theorem und76 : Tryd.prog.underlying 52 = some (.array 80 50) := by kernel_rfl
theorem und75 : Tryd.prog.underlying 51 = some (.array 5 50) := by kernel_rfl
theorem info30 : (Tryd.prog.info? 50).map (fun i => (i.zero, i.size, i.bytes)) = some (some (.int .u32 0), 1, 4) := by kernel_rfl
theorem idx76 (g o i : Nat) (x : Int) (hx : x = (i : Int)) (hi : i < 80) (W : World) : (Instr.indexAt 52 (.pointer (some ⟨g, o, none⟩)) (.int .i64 x)).run Tryd.prog W = .ok (.pointer (some ⟨g, o + i, none⟩)) W := by
  have hl : Tryd.prog.arrayLen 52 = 80 := by unfold Program.arrayLen; rw [und76]
  have he : Tryd.prog.elem 52 = 50 := by unfold Program.elem; rw [und76]
  obtain ⟨i0, hi0, _, hsz, _⟩ := info_parts info30
  rw [run_indexAt_array W 52 ⟨g, o, none⟩ .i64 x (by rw [hl, he]; exact und76), hl, he, hx, if_pos (by omega)]
  simp [sizeOf, typeInfo, hi0, hsz, Lib.addr_add]
theorem idx75 (g o i : Nat) (x : Int) (hx : x = (i : Int)) (hi : i < 5) (W : World) : (Instr.indexAt 51 (.pointer (some ⟨g, o, none⟩)) (.int .i64 x)).run Tryd.prog W = .ok (.pointer (some ⟨g, o + i, none⟩)) W := by
  have hl : Tryd.prog.arrayLen 51 = 5 := by unfold Program.arrayLen; rw [und75]
  have he : Tryd.prog.elem 51 = 50 := by unfold Program.elem; rw [und75]
  obtain ⟨i0, hi0, _, hsz, _⟩ := info_parts info30
  rw [run_indexAt_array W 51 ⟨g, o, none⟩ .i64 x (by rw [hl, he]; exact und75), hl, he, hx, if_pos (by omega)]
  simp [sizeOf, typeInfo, hi0, hsz, Lib.addr_add]
theorem info76z : (Tryd.prog.info? 52).bind (fun i => i.zero) = some (.agg ((List.replicate 80 0).map (fun n : Nat => Value.int .u32 (n : Int))).toArray) := by kernel_rfl
theorem exec_alloc {t : TypeId} {z : Array Value} (h : (Tryd.prog.info? t).bind (fun i => i.zero) = some (.agg z)) {o : Oper} (ho : o.op = .alloc t) (ρ : Operand → Value) (W : World) :
    (execOp ρ o).run Tryd.prog W = .ok (.value (.pointer (some ⟨W.heap.size, 0, none⟩))) (W.alloc (.cells z t (0, 0))) := by
  obtain ⟨i, hi, hz⟩ := Option.bind_eq_some_iff.1 h
  simp only [execOp, ho]
  go_simp
  simp [zeroValue, typeInfo, hi, hz]

/-- Bytes at a place. -/
def At8 (w : World) (pb po : Nat) (p : List Nat) : Prop := (∀ x ∈ p, x < 256) ∧ ∀ (i x : Nat), p[i]? = some x → w.cell? ⟨pb, po + i, none⟩ = some (.int .u8 (x : Int))
theorem At8.off {w w' : World} {S : Nat → Prop} {pb po : Nat} {p : List Nat} (h : At8 w pb po p) (hl : pb < w.heap.size) (ho : Off w w' S) (hb : ¬ S pb) : At8 w' pb po p :=
  ⟨h.1, fun i x hi => (World.cell?_of_block (ho.blk pb hl hb)).trans (h.2 i x hi)⟩

/-- Four bytes, the high ones first. -/
def be4 (a b c d : Nat) : Nat := ((a * 16777216 ||| b * 65536) ||| c * 256) ||| d
def word (p : List Nat) (i : Nat) : Nat := be4 (p.getD (4 * i) 0) (p.getD (4 * i + 1) 0) (p.getD (4 * i + 2) 0) (p.getD (4 * i + 3) 0)
def rot1 (x : Nat) : Nat := (x * 2 % 4294967296) ||| (x / 2147483648)
def rot5 (x : Nat) : Nat := (x * 32 % 4294967296) ||| (x / 134217728)
def rot30 (x : Nat) : Nat := (x * 1073741824 % 4294967296) ||| (x / 4)
def xor4 (a b c d : Nat) : Nat := ((a ^^^ b) ^^^ c) ^^^ d
/-- The first words. -/
def ws1 (p : List Nat) : Nat → List Nat
  | 0 => List.replicate 80 0
  | i + 1 => (ws1 p i).set i (word p i)
/-- The words made of them. -/
def ws2 (p : List Nat) : Nat → List Nat
  | 0 => ws1 p 16
  | i + 1 => (ws2 p i).set (16 + i) (rot1 (xor4 ((ws2 p i).getD (13 + i) 0) ((ws2 p i).getD (8 + i) 0) ((ws2 p i).getD (2 + i) 0) ((ws2 p i).getD i 0)))
structure S5 where
  a : Nat
  b : Nat
  c : Nat
  d : Nat
  e : Nat
def S5.Ok (s : S5) : Prop := s.a < 4294967296 ∧ s.b < 4294967296 ∧ s.c < 4294967296 ∧ s.d < 4294967296 ∧ s.e < 4294967296
def fk (i b c d : Nat) : Nat :=
  if i < 20 then (b &&& c) ||| ((4294967295 ^^^ b) &&& d) else if i < 40 then (b ^^^ c) ^^^ d else if i < 60 then ((b &&& c) ||| (b &&& d)) ||| (c &&& d) else (b ^^^ c) ^^^ d
def kk (i : Nat) : Nat := if i < 20 then 1518500249 else if i < 40 then 1859775393 else if i < 60 then 2400959708 else 3395469782
def rnd (i x : Nat) (s : S5) : S5 := ⟨(rot5 s.a + fk i s.b s.c s.d + s.e + kk i + x) % 4294967296, s.a, rot30 s.b, s.c, s.d⟩
def rnds (ws : List Nat) (s : S5) : Nat → S5
  | 0 => s
  | i + 1 => rnd i (ws.getD i 0) (rnds ws s i)
def add5 (s t : S5) : S5 := ⟨(s.a + t.a) % 4294967296, (s.b + t.b) % 4294967296, (s.c + t.c) % 4294967296, (s.d + t.d) % 4294967296, (s.e + t.e) % 4294967296⟩
def stepW (s : S5) (p : List Nat) : S5 := add5 s (rnds (ws2 p 64) s 80)

theorem or_lt {x y : Nat} (hx : x < 4294967296) (hy : y < 4294967296) : x ||| y < 4294967296 := Nat.or_lt_two_pow (n := 32) hx hy
theorem xor_lt {x y : Nat} (hx : x < 4294967296) (hy : y < 4294967296) : x ^^^ y < 4294967296 := Nat.xor_lt_two_pow (n := 32) hx hy
theorem and_lt {x y : Nat} (hx : x < 4294967296) : x &&& y < 4294967296 := Nat.lt_of_le_of_lt Nat.and_le_left hx
theorem u32w (n : Int) (h0 : 0 ≤ n) (h1 : n < 2 ^ 32) : IntKind.u32.wrap n = n := by rw [IntKind.wrap_u32]; omega
theorem u32_xor (x y : Nat) (hx : x < 4294967296) (hy : y < 4294967296) : bits .xor .u32 (x : Int) (y : Int) = ((x ^^^ y : Nat) : Int) := by
  have h1 : x % 2 ^ IntKind.u32.bits = x := Nat.mod_eq_of_lt hx
  have h2 : y % 2 ^ IntKind.u32.bits = y := Nat.mod_eq_of_lt hy
  have h3 : x ^^^ y < 2 ^ 32 := Nat.xor_lt_two_pow (n := 32) hx hy
  simp only [bits, BitVec.ofInt_natCast, BitVec.toNat_xor, BitVec.toNat_ofNat, h1, h2]
  rw [IntKind.wrap_u32]
  omega
theorem u32_or (x y : Nat) (hx : x < 4294967296) (hy : y < 4294967296) : bits .or .u32 (x : Int) (y : Int) = ((x ||| y : Nat) : Int) := (bits_nat .u32 32 (by decide) u32w x y hx hy).2
theorem u32_and (x y : Nat) (hx : x < 4294967296) (hy : y < 4294967296) : bits .and .u32 (x : Int) (y : Int) = ((x &&& y : Nat) : Int) := (bits_nat .u32 32 (by decide) u32w x y hx hy).1
theorem be4_lt {a b c d : Nat} (ha : a < 256) (hb : b < 256) (hc : c < 256) (hd : d < 256) : be4 a b c d < 4294967296 := or_lt (or_lt (or_lt (by omega) (by omega)) (by omega)) (by omega)
theorem be4_eq (a b c d : Nat) (ha : a < 256) (hb : b < 256) (hc : c < 256) (hd : d < 256) : bits .or .u32 (bits .or .u32 (bits .or .u32 ((a : Int) * 16777216) ((b : Int) * 65536)) ((c : Int) * 256)) (d : Int) = ((be4 a b c d : Nat) : Int) := by
  have e0 : (a : Int) * 16777216 = ((a * 16777216 : Nat) : Int) := by omega
  have e1 : (b : Int) * 65536 = ((b * 65536 : Nat) : Int) := by omega
  have e2 : (c : Int) * 256 = ((c * 256 : Nat) : Int) := by omega
  rw [e0, e1, e2, u32_or _ _ (by omega) (by omega), u32_or _ _ (or_lt (by omega) (by omega)) (by omega), u32_or _ _ (or_lt (or_lt (by omega) (by omega)) (by omega)) (by omega)]
  rfl
theorem rot1_lt {x : Nat} (hx : x < 4294967296) : rot1 x < 4294967296 := or_lt (Nat.mod_lt _ (by omega)) (by omega)
theorem rot5_lt {x : Nat} (hx : x < 4294967296) : rot5 x < 4294967296 := or_lt (Nat.mod_lt _ (by omega)) (by omega)
theorem rot30_lt {x : Nat} (hx : x < 4294967296) : rot30 x < 4294967296 := or_lt (Nat.mod_lt _ (by omega)) (by omega)
theorem rot1_eq (x : Nat) (hx : x < 4294967296) : bits .or .u32 ((x : Int) * 2 % 4294967296) ((x : Int) / 2147483648) = ((rot1 x : Nat) : Int) := by
  have e0 : (x : Int) * 2 % 4294967296 = ((x * 2 % 4294967296 : Nat) : Int) := by omega
  have e1 : (x : Int) / 2147483648 = ((x / 2147483648 : Nat) : Int) := by omega
  rw [e0, e1, u32_or _ _ (Nat.mod_lt _ (by omega)) (by omega)]
  rfl
theorem rot5_eq (x : Nat) (hx : x < 4294967296) : bits .or .u32 ((x : Int) * 32 % 4294967296) ((x : Int) / 134217728) = ((rot5 x : Nat) : Int) := by
  have e0 : (x : Int) * 32 % 4294967296 = ((x * 32 % 4294967296 : Nat) : Int) := by omega
  have e1 : (x : Int) / 134217728 = ((x / 134217728 : Nat) : Int) := by omega
  rw [e0, e1, u32_or _ _ (Nat.mod_lt _ (by omega)) (by omega)]
  rfl
theorem rot30_eq (x : Nat) (hx : x < 4294967296) : bits .or .u32 ((x : Int) * 1073741824 % 4294967296) ((x : Int) / 4) = ((rot30 x : Nat) : Int) := by
  have e0 : (x : Int) * 1073741824 % 4294967296 = ((x * 1073741824 % 4294967296 : Nat) : Int) := by omega
  have e1 : (x : Int) / 4 = ((x / 4 : Nat) : Int) := by omega
  rw [e0, e1, u32_or _ _ (Nat.mod_lt _ (by omega)) (by omega)]
  rfl
theorem xor4_lt {a b c d : Nat} (ha : a < 4294967296) (hb : b < 4294967296) (hc : c < 4294967296) (hd : d < 4294967296) : xor4 a b c d < 4294967296 := xor_lt (xor_lt (xor_lt ha hb) hc) hd
theorem xor4_eq (a b c d : Nat) (ha : a < 4294967296) (hb : b < 4294967296) (hc : c < 4294967296) (hd : d < 4294967296) : bits .xor .u32 (bits .xor .u32 (bits .xor .u32 (a : Int) (b : Int)) (c : Int)) (d : Int) = ((xor4 a b c d : Nat) : Int) := by
  rw [u32_xor _ _ ha hb, u32_xor _ _ (xor_lt ha hb) hc, u32_xor _ _ (xor_lt (xor_lt ha hb) hc) hd]
  rfl
theorem f20 (i b c d : Nat) (hi : i < 20) (hb : b < 4294967296) (hc : c < 4294967296) (hd : d < 4294967296) : bits .or .u32 (bits .and .u32 (b : Int) (c : Int)) (bits .and .u32 (bits .xor .u32 IntKind.u32.max (b : Int)) (d : Int)) = ((fk i b c d : Nat) : Int) := by
  rw [show IntKind.u32.max = ((4294967295 : Nat) : Int) from rfl, u32_xor _ _ (by omega) hb, u32_and _ _ hb hc, u32_and _ _ (xor_lt (by omega) hb) hd, u32_or _ _ (and_lt hb) (and_lt (xor_lt (by omega) hb))]
  unfold fk
  rw [if_pos hi]
theorem f40 (i b c d : Nat) (hi : ¬ i < 20) (hi2 : i < 40) (hb : b < 4294967296) (hc : c < 4294967296) (hd : d < 4294967296) : bits .xor .u32 (bits .xor .u32 (b : Int) (c : Int)) (d : Int) = ((fk i b c d : Nat) : Int) := by
  rw [u32_xor _ _ hb hc, u32_xor _ _ (xor_lt hb hc) hd]
  unfold fk
  rw [if_neg hi, if_pos hi2]
theorem f60 (i b c d : Nat) (hi : ¬ i < 20) (hi2 : ¬ i < 40) (hi3 : i < 60) (hb : b < 4294967296) (hc : c < 4294967296) (hd : d < 4294967296) : bits .or .u32 (bits .or .u32 (bits .and .u32 (b : Int) (c : Int)) (bits .and .u32 (b : Int) (d : Int))) (bits .and .u32 (c : Int) (d : Int)) = ((fk i b c d : Nat) : Int) := by
  rw [u32_and _ _ hb hc, u32_and _ _ hb hd, u32_and _ _ hc hd, u32_or _ _ (and_lt hb) (and_lt hb), u32_or _ _ (or_lt (and_lt hb) (and_lt hb)) (and_lt hc)]
  unfold fk
  rw [if_neg hi, if_neg hi2, if_pos hi3]
theorem f80 (i b c d : Nat) (hi : ¬ i < 20) (hi2 : ¬ i < 40) (hi3 : ¬ i < 60) (hb : b < 4294967296) (hc : c < 4294967296) (hd : d < 4294967296) : bits .xor .u32 (bits .xor .u32 (b : Int) (c : Int)) (d : Int) = ((fk i b c d : Nat) : Int) := by
  rw [u32_xor _ _ hb hc, u32_xor _ _ (xor_lt hb hc) hd]
  unfold fk
  rw [if_neg hi, if_neg hi2, if_neg hi3]
/-- One round, said with letters. -/
theorem rnds_next {ws : List Nat} {s : S5} {i a b c d e x F A5 B30 K : Nat} (h : rnds ws s i = ⟨a, b, c, d, e⟩) (hx : ws.getD i 0 = x) (hF : F = fk i b c d) (h5 : A5 = rot5 a) (h30 : B30 = rot30 b) (hK : K = kk i) :
    rnds ws s (i + 1) = ⟨(A5 + F + e + K + x) % 4294967296, a, B30, c, d⟩ := by
  show rnd i (ws.getD i 0) (rnds ws s i) = _
  rw [h, hx, hF, h5, h30, hK]
  rfl
theorem k20 {i : Nat} (h : i < 20) : 1518500249 = kk i := by unfold kk; rw [if_pos h]
theorem k40 {i : Nat} (h : ¬ i < 20) (h2 : i < 40) : 1859775393 = kk i := by unfold kk; rw [if_neg h, if_pos h2]
theorem k60 {i : Nat} (h : ¬ i < 20) (h2 : ¬ i < 40) (h3 : i < 60) : 2400959708 = kk i := by unfold kk; rw [if_neg h, if_neg h2, if_pos h3]
theorem k80 {i : Nat} (h : ¬ i < 20) (h2 : ¬ i < 40) (h3 : ¬ i < 60) : 3395469782 = kk i := by unfold kk; rw [if_neg h, if_neg h2, if_neg h3]
/-- Words below 2^32, eighty of them. -/
def All32 (l : List Nat) : Prop := l.length = 80 ∧ ∀ (i x : Nat), l[i]? = some x → x < 4294967296
theorem All32.set {l : List Nat} (h : All32 l) (i : Nat) {x : Nat} (hx : x < 4294967296) : All32 (l.set i x) := by
  refine ⟨by rw [List.length_set]; exact h.1, fun j y hj => ?_⟩
  rw [List.getElem?_set] at hj
  split at hj
  · split at hj
    · cases hj; exact hx
    · cases hj
  · exact h.2 j y hj
theorem All32.get {l : List Nat} (h : All32 l) (i : Nat) (hi : i < 80) : ∃ x, l[i]? = some x ∧ x < 4294967296 ∧ l.getD i 0 = x := by
  have hl : i < l.length := by rw [h.1]; exact hi
  have h1 : l[i]? = some l[i] := List.getElem?_eq_getElem hl
  exact ⟨_, h1, h.2 i _ h1, by simp [List.getD, h1]⟩
theorem getD_lt {l : List Nat} {B : Nat} (h : ∀ x ∈ l, x < B) (hB : 0 < B) (i : Nat) : l.getD i 0 < B := by
  rw [List.getD_eq_getElem?_getD]
  rcases hx : l[i]? with _ | x
  · exact hB
  · exact h x (List.mem_of_getElem? hx)
theorem word_lt {p : List Nat} (h : ∀ x ∈ p, x < 256) (i : Nat) : word p i < 4294967296 := be4_lt (getD_lt h (by omega) _) (getD_lt h (by omega) _) (getD_lt h (by omega) _) (getD_lt h (by omega) _)
theorem ws1_all {p : List Nat} (h : ∀ x ∈ p, x < 256) : ∀ i, All32 (ws1 p i)
  | 0 => ⟨by simp [ws1], fun i x hi => by
      unfold ws1 at hi
      rw [List.getElem?_replicate] at hi
      split at hi
      · cases hi; omega
      · cases hi⟩
  | i + 1 => (ws1_all h i).set i (word_lt h i)
theorem All32.getD {l : List Nat} (h : All32 l) (i : Nat) : l.getD i 0 < 4294967296 := getD_lt (fun x hx => by obtain ⟨j, hj⟩ := List.mem_iff_getElem?.1 hx; exact h.2 j x hj) (by omega) i
theorem ws2_all {p : List Nat} (h : ∀ x ∈ p, x < 256) : ∀ i, All32 (ws2 p i)
  | 0 => ws1_all h 16
  | i + 1 => (ws2_all h i).set (16 + i) (rot1_lt (xor4_lt ((ws2_all h i).getD _) ((ws2_all h i).getD _) ((ws2_all h i).getD _) ((ws2_all h i).getD _)))
theorem rnd_ok {s : S5} (h : s.Ok) (i x : Nat) : (rnd i x s).Ok := ⟨Nat.mod_lt _ (by omega), h.1, rot30_lt h.2.1, h.2.2.1, h.2.2.2.1⟩
theorem rnds_ok {s : S5} (h : s.Ok) (ws : List Nat) : ∀ i, (rnds ws s i).Ok
  | 0 => h
  | i + 1 => rnd_ok (rnds_ok h ws i) i _
theorem add5_ok (s t : S5) : (add5 s t).Ok := ⟨Nat.mod_lt _ (by omega), Nat.mod_lt _ (by omega), Nat.mod_lt _ (by omega), Nat.mod_lt _ (by omega), Nat.mod_lt _ (by omega)⟩
theorem stepW_ok (s : S5) (p : List Nat) : (stepW s p).Ok := add5_ok _ _

set_option maxHeartbeats 8000000 in
set_option maxRecDepth 100000 in
theorem step (hb pb po c sa sb sc sd se : Nat) (blk : Value) (lng : Int) (p : List Nat) (w : World) (hp : p.length = 64) (h8 : At8 w pb po p) (hc : 64 ≤ c) (hpl : pb < w.heap.size)
    (hs : w.heap[hb]? = some (.cells #[.int .u32 (sa : Int), .int .u32 (sb : Int), .int .u32 (sc : Int), .int .u32 (sd : Int), .int .u32 (se : Int), blk, .int .u64 lng] 62 (0, 0))) (hok : S5.Ok ⟨sa, sb, sc, sd, se⟩) (hne : pb ≠ hb) :
    Calls Tryd.prog 60 #[.pointer (some ⟨hb, 0, none⟩), .slice (some ⟨pb, po, none⟩) 64 c] w fun e w' => e = .returned (.tuple #[]) ∧
      (∃ a b c d e, stepW ⟨sa, sb, sc, sd, se⟩ p = ⟨a, b, c, d, e⟩ ∧ w'.heap[hb]? = some (.cells #[.int .u32 (a : Int), .int .u32 (b : Int), .int .u32 (c : Int), .int .u32 (d : Int), .int .u32 (e : Int), blk, .int .u64 lng] 62 (0, 0))) ∧ Off w w' (fun k => k = hb) := by
  have HI := Aside0.mk info76z
  obtain ⟨Z, hZ⟩ : ∃ Z, Z = ((List.replicate 80 0).map (fun n : Nat => Value.int .u32 (n : Int))).toArray := ⟨_, rfl⟩
  rw [← hZ] at HI
  have HZ := Aside0.mk hZ
  have H8 := Aside0.mk h8
  have HP := Aside0.mk hp
  have HS := Aside0.mk hs
  have HK := Aside0.mk hok
  have HL := Aside0.mk hpl
  have HNB := Aside0.mk (show ¬ pb = hb from hne)
  have hsl := Lib.lt_of_heap hs
  have HH := Aside0.mk hsl
  clear hZ h8 hp hs hok hpl hsl hne
  go_enter Tryd.func60, Tryd.ntmps60
  go_wp2_with (first | ((with_reducible refine gate_dst (N := 4) rfl ?_); refine box_event ?hg (N := 4) ?hd (cs := Z) (t := 52) ?hr ?_; (case hd => rfl); (case hg => rfl); (case hr => exact exec_alloc HI.out rfl _ _); intro zb hg w1 hbox hbel; have HW1 := Aside0.mk hbox; have HB1 := Aside0.mk hbel; have HO1 := Aside0.mk (Off.of_below hbel (fun k => k = hb)); have HG := Aside0.mk hg; clear hbox hbel hg))
  go_loopg [5] 16 (fun g0 v5 w' => ∃ (i : Nat), v5 = .int .i64 (i : Int) ∧ i + g0 = 16 ∧ Aside0 (W32 w' zb 52 (ws1 p i)) ∧ Aside0 (Off w w' (fun k => k = hb)) ∧ Aside0 (w'.heap[hb]? = w.heap[hb]?))
  case atStart => exact ⟨0, rfl, by omega, ⟨by have := HW1.out; rw [HZ.out] at this; exact this⟩, HO1, ⟨HB1.out.block hb HH.out⟩⟩
  case round =>
    obtain ⟨i, rfl, hig, HT, HO, HHB⟩ := hrel
    by_cases hi : i < 16
    · obtain ⟨k0, hk0⟩ : ∃ k : Nat, k = 4 * i := ⟨_, rfl⟩
      obtain ⟨k1, hk1⟩ : ∃ k : Nat, k = 4 * i + 1 := ⟨_, rfl⟩
      obtain ⟨k2, hk2⟩ : ∃ k : Nat, k = 4 * i + 2 := ⟨_, rfl⟩
      obtain ⟨k3, hk3⟩ : ∃ k : Nat, k = 4 * i + 3 := ⟨_, rfl⟩
      have hw0 : IntKind.i64.wrap (4 * (i : Int)) = (k0 : Int) := by rw [IntKind.wrap_i64]; omega
      have hw1 : IntKind.i64.wrap ((k0 : Int) + 1) = (k1 : Int) := by rw [IntKind.wrap_i64]; omega
      have hw2 : IntKind.i64.wrap ((k0 : Int) + 2) = (k2 : Int) := by rw [IntKind.wrap_i64]; omega
      have hw3 : IntKind.i64.wrap ((k0 : Int) + 3) = (k3 : Int) := by rw [IntKind.wrap_i64]; omega
      have h8' := H8.out.off HL.out HO.out (by exact HNB.out)
      have hget : ∀ k, k < 64 → ∃ x : Nat, wr.cell? ⟨pb, po + k, none⟩ = some (.int .u8 (x : Int)) ∧ x < 256 ∧ p.getD k 0 = x := fun k hk => by
        have hlt : k < p.length := by rw [HP.out]; exact hk
        have h1 : p[k]? = some p[k] := List.getElem?_eq_getElem hlt
        exact ⟨_, h8'.2 k _ h1, h8'.1 _ (List.getElem_mem hlt), by simp [List.getD, h1]⟩
      obtain ⟨x0, c0, b0, g0⟩ := hget k0 (by omega)
      obtain ⟨x1, c1, b1, g1⟩ := hget k1 (by omega)
      obtain ⟨x2, c2, b2, g2⟩ := hget k2 (by omega)
      obtain ⟨x3, c3, b3, g3⟩ := hget k3 (by omega)
      have hbe := be4_eq x0 x1 x2 x3 b0 b1 b2 b3
      have hword : word p i = be4 x0 x1 x2 x3 := by unfold word; rw [← hk3, ← hk2, ← hk1, ← hk0, g0, g1, g2, g3]
      have HNW : Aside0 (∀ W : World, W32 W zb 52 (ws1 p i) → W32 (W.setCell ⟨zb, i, none⟩ (.int .u32 ((be4 x0 x1 x2 x3 : Nat) : Int))) zb 52 (ws1 p (i + 1))) := ⟨fun W hW => by rw [← hword]; exact hW.set i _⟩
      obtain ⟨ov, hov, -, -⟩ := (ws1_all H8.out.1 i).get i (by omega)
      have kb0 : (k0 : Int) < 64 := by omega
      have kb1 : (k1 : Int) < 64 := by omega
      have kb2 : (k2 : Int) < 64 := by omega
      have kb3 : (k3 : Int) < 64 := by omega
      have kc0 : (0 : Int) ≤ k0 := by omega
      have kc1 : (0 : Int) ≤ k1 := by omega
      have kc2 : (0 : Int) ≤ k2 := by omega
      have kc3 : (0 : Int) ≤ k3 := by omega
      have hzi := idx76 zb 0 i (i : Int) rfl (by omega)
      rw [Nat.zero_add] at hzi
      clear hget h8' hk0 hk1 hk2 hk3 g0 g1 g2 g3 hword
      go_wp2_with fail
      go_still_tail 34, (by kernel_rfl)
      change wpList _ _ _ _ _ wr.drew
      have HT' : Aside0 (W32 wr.drew zb 52 (ws1 p i)) := ⟨HT.out⟩
      have HO' : Aside0 (Off w wr.drew (fun k => k = hb)) := ⟨HO.out.trans (Off.drew wr (fun _ => False)) (fun _ _ h => h.elim)⟩
      have HHB' : Aside0 (wr.drew.heap[hb]? = w.heap[hb]?) := ⟨HHB.out⟩
      clear HT HO HHB c0 c1 c2 c3
      generalize wr.drew = wd at HT' HO' HHB' ⊢
      have ct := HT'.out.cell i ov hov
      have ft := HT'.out.frozen i
      clear hov
      go_wp2_with fail
      go_roundg (16 - (i + 1))
      case measure => omega
      case rel =>
        refine ⟨i + 1, by first | rfl | (congr 1; omega), by omega, ⟨?_⟩, ⟨HO'.out.setN HG.out i _⟩, ⟨keep HHB'.out HH.out HG.out i _⟩⟩
        exact HNW.out _ HT'.out
    · obtain rfl : i = 16 := by omega
      go_wp2_with fail
      go_loopg [6, 7] 64 (fun g0 v6 v7 w' => ∃ (j m : Nat), v6 = .int .i64 (m : Int) ∧ m = 16 + j ∧ j + g0 = 64 ∧ Aside0 (W32 w' zb 52 (ws2 p j)) ∧ Aside0 (Off w w' (fun k => k = hb)) ∧ Aside0 (w'.heap[hb]? = w.heap[hb]?))
      case atStart => exact ⟨0, 16, rfl, by omega, by omega, ⟨HT.out⟩, HO, HHB⟩
      case round =>
        clear HT HO HHB
        obtain ⟨j, m, rfl, hm, hjg, HT, HO, HHB⟩ := hrel
        by_cases hj : j < 64
        · have hm80 : (m : Int) < 80 := by omega
          obtain ⟨m3, hm3⟩ : ∃ k : Nat, k = 13 + j := ⟨_, rfl⟩
          obtain ⟨m8, hm8⟩ : ∃ k : Nat, k = 8 + j := ⟨_, rfl⟩
          obtain ⟨m14, hm14⟩ : ∃ k : Nat, k = 2 + j := ⟨_, rfl⟩
          have hw3 : IntKind.i64.wrap ((m : Int) - 3) = (m3 : Int) := by rw [IntKind.wrap_i64]; omega
          have hw8 : IntKind.i64.wrap ((m : Int) - 8) = (m8 : Int) := by rw [IntKind.wrap_i64]; omega
          have hw14 : IntKind.i64.wrap ((m : Int) - 14) = (m14 : Int) := by rw [IntKind.wrap_i64]; omega
          have hw16 : IntKind.i64.wrap ((m : Int) - 16) = (j : Int) := by rw [IntKind.wrap_i64]; omega
          have hA := ws2_all H8.out.1 j
          obtain ⟨ov, hov, -, -⟩ := hA.get m (by omega)
          obtain ⟨x3, q3, b3, g3⟩ := hA.get m3 (by omega)
          obtain ⟨x8, q8, b8, g8⟩ := hA.get m8 (by omega)
          obtain ⟨x14, q14, b14, g14⟩ := hA.get m14 (by omega)
          obtain ⟨x16, q16, b16, g16⟩ := hA.get j (by omega)
          have c3 : ∀ n, (wr.drewN n).cell? _ = _ := fun n => HT.out.cell m3 x3 q3
          have c8 : ∀ n, (wr.drewN n).cell? _ = _ := fun n => HT.out.cell m8 x8 q8
          have c14 : ∀ n, (wr.drewN n).cell? _ = _ := fun n => HT.out.cell m14 x14 q14
          have c16 : ∀ n, (wr.drewN n).cell? _ = _ := fun n => HT.out.cell j x16 q16
          have i3 := idx76 zb 0 m3 (m3 : Int) rfl (by omega)
          have i8 := idx76 zb 0 m8 (m8 : Int) rfl (by omega)
          have i14 := idx76 zb 0 m14 (m14 : Int) rfl (by omega)
          have i16 := idx76 zb 0 j (j : Int) rfl (by omega)
          have im := idx76 zb 0 m (m : Int) rfl (by omega)
          rw [Nat.zero_add] at i3 i8 i14 i16 im
          have hx := xor4_eq x3 x8 x14 x16 b3 b8 b14 b16
          have hxl := xor4_lt b3 b8 b14 b16
          have hstep : ws2 p (j + 1) = (ws2 p j).set m (rot1 (xor4 x3 x8 x14 x16)) := by
            show (ws2 p j).set (16 + j) _ = _
            rw [← hm3, ← hm8, ← hm14, g3, g8, g14, g16, ← hm]
          have HST := Aside0.mk hstep
          generalize xor4 x3 x8 x14 x16 = X at hx hxl HST
          have hr := rot1_eq X hxl
          have c3' := HT.out.cell m3 x3 q3
          have HM := Aside0.mk hm
          clear hm hstep hA q3 q8 q14 q16 g3 g8 g14 g16 hm3 hm8 hm14
          go_wp2_with fail
          go_quiet (fail)
          have HT' : Aside0 (W32 (wr.drewN nq) zb 52 (ws2 p j)) := ⟨HT.out⟩
          have HO' : Aside0 (Off w (wr.drewN nq) (fun k => k = hb)) := ⟨HO.out.trans (Off.drewN wr nq (fun _ => False)) (fun _ _ h => h.elim)⟩
          have HHB' : Aside0 ((wr.drewN nq).heap[hb]? = w.heap[hb]?) := ⟨HHB.out⟩
          clear HT HO HHB c3 c8 c14 c16
          generalize wr.drewN nq = wd at HT' HO' HHB' ⊢
          have ct := HT'.out.cell m ov hov
          have ft := HT'.out.frozen m
          clear hov
          go_wp2_with fail
          go_roundg (64 - (j + 1))
          case measure => omega
          case rel =>
            refine ⟨j + 1, m + 1, by first | rfl | (congr 1; omega), by have := HM.out; omega, by omega, ⟨?_⟩, ⟨HO'.out.setN HG.out m _⟩, ⟨keep HHB'.out HH.out HG.out m _⟩⟩
            rw [HST.out]
            exact HT'.out.set m _
        · obtain rfl : j = 64 := by omega
          have hHB := HHB.out.trans HS.out
          have c0 : ∀ n, (wr.drewN n).cell? ⟨hb, 0, none⟩ = some (.int .u32 (sa : Int)) := fun n => (Lib.cell_of_heap hHB 0).trans rfl
          have c1 : ∀ n, (wr.drewN n).cell? ⟨hb, 1, none⟩ = some (.int .u32 (sb : Int)) := fun n => (Lib.cell_of_heap hHB 1).trans rfl
          have c2 : ∀ n, (wr.drewN n).cell? ⟨hb, 2, none⟩ = some (.int .u32 (sc : Int)) := fun n => (Lib.cell_of_heap hHB 2).trans rfl
          have c3 : ∀ n, (wr.drewN n).cell? ⟨hb, 3, none⟩ = some (.int .u32 (sd : Int)) := fun n => (Lib.cell_of_heap hHB 3).trans rfl
          have c4 : ∀ n, (wr.drewN n).cell? ⟨hb, 4, none⟩ = some (.int .u32 (se : Int)) := fun n => (Lib.cell_of_heap hHB 4).trans rfl
          have i0 := idx75 hb 0 0 0 rfl (by omega)
          have i1 := idx75 hb 0 1 1 rfl (by omega)
          have i2 := idx75 hb 0 2 2 rfl (by omega)
          have i3 := idx75 hb 0 3 3 rfl (by omega)
          have i4 := idx75 hb 0 4 4 rfl (by omega)
          rw [Nat.zero_add] at i0 i1 i2 i3 i4
          clear hHB
          go_wp2_with fail
          go_quiet (fail)
          have HT' : Aside0 (W32 (wr.drewN nq) zb 52 (ws2 p 64)) := ⟨HT.out⟩
          have HO' : Aside0 (Off w (wr.drewN nq) (fun k => k = hb)) := ⟨HO.out.trans (Off.drewN wr nq (fun _ => False)) (fun _ _ h => h.elim)⟩
          have HHB' : Aside0 ((wr.drewN nq).heap[hb]? = w.heap[hb]?) := ⟨HHB.out⟩
          clear HT HO HHB c0 c1 c2 c3 c4
          generalize wr.drewN nq = wd at HT' HO' HHB' ⊢
          have hA := ws2_all H8.out.1 64
          obtain ⟨WS, hWS⟩ : ∃ l, l = ws2 p 64 := ⟨_, rfl⟩
          rw [← hWS] at hA HT'
          have HWS := Aside0.mk hWS
          have HA := Aside0.mk hA
          clear hA hWS hm hjg hj hig hi
          go_wp2_with fail
          go_loopg [8, 9, 10, 11, 12, 13, 14, 15, 16] 80 (fun g0 v8 v9 v10 v11 v12 v13 v14 v15 v16 w' => ∃ (i a b c d e : Nat), v8 = .int .u32 (a : Int) ∧ v9 = .int .u32 (b : Int) ∧ v10 = .int .u32 (c : Int) ∧ v11 = .int .u32 (d : Int) ∧ v12 = .int .u32 (e : Int) ∧ v13 = .int .i64 (i : Int) ∧ i + g0 = 80 ∧ w' = wd ∧ Aside0 (rnds WS ⟨sa, sb, sc, sd, se⟩ i = ⟨a, b, c, d, e⟩))
          case atStart => exact ⟨0, sa, sb, sc, sd, se, rfl, rfl, rfl, rfl, rfl, rfl, by omega, rfl, ⟨rfl⟩⟩
          case round =>
            obtain ⟨i, a, b, c, d, e, rfl, rfl, rfl, rfl, rfl, rfl, hig, rfl, HR⟩ := hrel
            by_cases hi : i < 80
            · obtain ⟨ha, hb', hcc, hd, he⟩ : a < 4294967296 ∧ b < 4294967296 ∧ c < 4294967296 ∧ d < 4294967296 ∧ e < 4294967296 := by
                have := rnds_ok HK.out WS i
                rw [HR.out] at this
                exact this
              obtain ⟨x, hx, hxl, hxg⟩ := HA.out.get i hi
              have cx := HT'.out.cell i x hx
              have iz := idx76 zb 0 i (i : Int) rfl hi
              rw [Nat.zero_add] at iz
              have r5 := rot5_eq a ha
              have r30 := rot30_eq b hb'
              obtain ⟨A5, hA5⟩ : ∃ k, k = rot5 a := ⟨_, rfl⟩
              obtain ⟨B30, hB30⟩ : ∃ k, k = rot30 b := ⟨_, rfl⟩
              rw [← hA5] at r5
              rw [← hB30] at r30
              clear hx
              by_cases h20 : i < 20
              · skip
                have hF := f20 i b c d h20 hb' hcc hd
                obtain ⟨F, hFe⟩ : ∃ k, k = fk i b c d := ⟨_, rfl⟩
                rw [← hFe] at hF
                have HN := Aside0.mk (rnds_next HR.out hxg hFe hA5 hB30 (k20 h20))
                clear hFe hA5 hB30 hxg
                go_wp2_with fail
                go_roundg (80 - (i + 1))
                case measure => omega
                case rel => exact ⟨i + 1, _, a, B30, c, d, congrArg (Value.int .u32) (by omega), rfl, rfl, rfl, rfl, by first | rfl | exact congrArg (Value.int .i64) (by omega), by omega, rfl, HN⟩
              · by_cases h40 : i < 40
                · skip
                  have hF := f40 i b c d h20 h40 hb' hcc hd
                  obtain ⟨F, hFe⟩ : ∃ k, k = fk i b c d := ⟨_, rfl⟩
                  rw [← hFe] at hF
                  have HN := Aside0.mk (rnds_next HR.out hxg hFe hA5 hB30 (k40 h20 h40))
                  clear hFe hA5 hB30 hxg
                  go_wp2_with fail
                  go_roundg (80 - (i + 1))
                  case measure => omega
                  case rel => exact ⟨i + 1, _, a, B30, c, d, congrArg (Value.int .u32) (by omega), rfl, rfl, rfl, rfl, by first | rfl | exact congrArg (Value.int .i64) (by omega), by omega, rfl, HN⟩
                · by_cases h60 : i < 60
                  · skip
                    have hF := f60 i b c d h20 h40 h60 hb' hcc hd
                    obtain ⟨F, hFe⟩ : ∃ k, k = fk i b c d := ⟨_, rfl⟩
                    rw [← hFe] at hF
                    have HN := Aside0.mk (rnds_next HR.out hxg hFe hA5 hB30 (k60 h20 h40 h60))
                    clear hFe hA5 hB30 hxg
                    go_wp2_with fail
                    go_roundg (80 - (i + 1))
                    case measure => omega
                    case rel => exact ⟨i + 1, _, a, B30, c, d, congrArg (Value.int .u32) (by omega), rfl, rfl, rfl, rfl, by first | rfl | exact congrArg (Value.int .i64) (by omega), by omega, rfl, HN⟩
                  · skip
                    have hF := f80 i b c d h20 h40 h60 hb' hcc hd
                    obtain ⟨F, hFe⟩ : ∃ k, k = fk i b c d := ⟨_, rfl⟩
                    rw [← hFe] at hF
                    have HN := Aside0.mk (rnds_next HR.out hxg hFe hA5 hB30 (k80 h20 h40 h60))
                    clear hFe hA5 hB30 hxg
                    go_wp2_with fail
                    go_roundg (80 - (i + 1))
                    case measure => omega
                    case rel => exact ⟨i + 1, _, a, B30, c, d, congrArg (Value.int .u32) (by omega), rfl, rfl, rfl, rfl, by first | rfl | exact congrArg (Value.int .i64) (by omega), by omega, rfl, HN⟩
            · obtain rfl : i = 80 := by omega
              have HADD : Aside0 (∃ na nb nc nd ne : Nat, stepW ⟨sa, sb, sc, sd, se⟩ p = ⟨na, nb, nc, nd, ne⟩ ∧ IntKind.u32.wrap ((sa : Int) + (a : Int)) = (na : Int) ∧ IntKind.u32.wrap ((sb : Int) + (b : Int)) = (nb : Int) ∧ IntKind.u32.wrap ((sc : Int) + (c : Int)) = (nc : Int) ∧ IntKind.u32.wrap ((sd : Int) + (d : Int)) = (nd : Int) ∧ IntKind.u32.wrap ((se : Int) + (e : Int)) = (ne : Int)) := ⟨by
                refine ⟨(sa + a) % 4294967296, (sb + b) % 4294967296, (sc + c) % 4294967296, (sd + d) % 4294967296, (se + e) % 4294967296, ?_, ?_, ?_, ?_, ?_, ?_⟩
                · show add5 _ (rnds (ws2 p 64) _ 80) = _
                  rw [← HWS.out, HR.out]
                  rfl
                all_goals (rw [IntKind.wrap_u32]; omega)⟩
              obtain ⟨na, nb, nc, nd, ne, hst, s0, s1, s2, s3, s4⟩ := HADD.out
              have HST := Aside0.mk hst
              have hW0 := HHB'.out.trans HS.out
              have HOO := Aside0.mk HO'.out
              clear hst HR HT' HO' HHB' HADD hig hi
              go_wp2_with fail
              have d0 : wr.cell? ⟨hb, 0, none⟩ = some (.int .u32 (sa : Int)) := (Lib.cell_of_heap hW0 0).trans rfl
              have e0 : ∀ W, W = wr.drew → W.frozen? ⟨hb, 0, none⟩ = false ∧ W.cell? ⟨hb, 0, none⟩ = some (.int .u32 (sa : Int)) := fun W hW => by subst hW; exact ⟨Lib.frozen_of_heap hW0 0, d0⟩
              have j0 := idx75 hb 0 0 0 rfl (by omega)
              rw [Nat.zero_add] at j0
              have HNW : Aside0 (∀ W, W = wr.drew → ((W.setCell ⟨hb, 0, none⟩ (.int .u32 (na : Int))).heap[hb]? = some (.cells #[.int .u32 (na : Int), .int .u32 (sb : Int), .int .u32 (sc : Int), .int .u32 (sd : Int), .int .u32 (se : Int), blk, .int .u64 lng] 62 (0, 0))) ∧ Off w (W.setCell ⟨hb, 0, none⟩ (.int .u32 (na : Int))) (fun k => k = hb)) := ⟨fun W hW => by
                subst hW
                exact ⟨(Lib.heap_setCell_same (w := wr.drew) (i := 0) hW0 _).trans rfl, (HOO.out.trans (Off.drew wr (fun _ => False)) (fun _ _ h => h.elim)).trans (Off.set _ hb 0 _) (fun _ _ h => h)⟩⟩
              clear hW0 HOO
              go_still_tail 9, (by kernel_rfl)
              change wpList _ _ _ _ _ wr.drew
              clear d0
              generalize hwd : wr.drew = wd0 at e0 HNW ⊢
              obtain ⟨q0, d0⟩ := e0 wd0 rfl
              have HNX := Aside0.mk (HNW.out wd0 rfl)
              clear e0 HNW hwd
              go_wp2_with fail
              obtain ⟨hW0, hOO⟩ := HNX.out
              have HOO := Aside0.mk hOO
              clear hOO HNX q0 d0 j0
              generalize wd0.setCell ⟨hb, 0, none⟩ (.int .u32 (na : Int)) = wq1 at hW0 HOO ⊢
              have d1 : wq1.cell? ⟨hb, 1, none⟩ = some (.int .u32 (sb : Int)) := (Lib.cell_of_heap hW0 1).trans rfl
              have e1 : ∀ W, W = wq1.drew → W.frozen? ⟨hb, 1, none⟩ = false ∧ W.cell? ⟨hb, 1, none⟩ = some (.int .u32 (sb : Int)) := fun W hW => by subst hW; exact ⟨Lib.frozen_of_heap hW0 1, d1⟩
              have j1 := idx75 hb 0 1 1 rfl (by omega)
              rw [Nat.zero_add] at j1
              have HNW : Aside0 (∀ W, W = wq1.drew → ((W.setCell ⟨hb, 1, none⟩ (.int .u32 (nb : Int))).heap[hb]? = some (.cells #[.int .u32 (na : Int), .int .u32 (nb : Int), .int .u32 (sc : Int), .int .u32 (sd : Int), .int .u32 (se : Int), blk, .int .u64 lng] 62 (0, 0))) ∧ Off w (W.setCell ⟨hb, 1, none⟩ (.int .u32 (nb : Int))) (fun k => k = hb)) := ⟨fun W hW => by
                subst hW
                exact ⟨(Lib.heap_setCell_same (w := wq1.drew) (i := 1) hW0 _).trans rfl, (HOO.out.trans (Off.drew wq1 (fun _ => False)) (fun _ _ h => h.elim)).trans (Off.set _ hb 1 _) (fun _ _ h => h)⟩⟩
              clear hW0 HOO
              go_still_tail 9, (by kernel_rfl)
              change wpList _ _ _ _ _ wq1.drew
              clear d1
              generalize hwd : wq1.drew = wd1 at e1 HNW ⊢
              obtain ⟨q1, d1⟩ := e1 wd1 rfl
              have HNX := Aside0.mk (HNW.out wd1 rfl)
              clear e1 HNW hwd
              go_wp2_with fail
              obtain ⟨hW0, hOO⟩ := HNX.out
              have HOO := Aside0.mk hOO
              clear hOO HNX q1 d1 j1
              generalize wd1.setCell ⟨hb, 1, none⟩ (.int .u32 (nb : Int)) = wq2 at hW0 HOO ⊢
              have d2 : wq2.cell? ⟨hb, 2, none⟩ = some (.int .u32 (sc : Int)) := (Lib.cell_of_heap hW0 2).trans rfl
              have e2 : ∀ W, W = wq2.drew → W.frozen? ⟨hb, 2, none⟩ = false ∧ W.cell? ⟨hb, 2, none⟩ = some (.int .u32 (sc : Int)) := fun W hW => by subst hW; exact ⟨Lib.frozen_of_heap hW0 2, d2⟩
              have j2 := idx75 hb 0 2 2 rfl (by omega)
              rw [Nat.zero_add] at j2
              have HNW : Aside0 (∀ W, W = wq2.drew → ((W.setCell ⟨hb, 2, none⟩ (.int .u32 (nc : Int))).heap[hb]? = some (.cells #[.int .u32 (na : Int), .int .u32 (nb : Int), .int .u32 (nc : Int), .int .u32 (sd : Int), .int .u32 (se : Int), blk, .int .u64 lng] 62 (0, 0))) ∧ Off w (W.setCell ⟨hb, 2, none⟩ (.int .u32 (nc : Int))) (fun k => k = hb)) := ⟨fun W hW => by
                subst hW
                exact ⟨(Lib.heap_setCell_same (w := wq2.drew) (i := 2) hW0 _).trans rfl, (HOO.out.trans (Off.drew wq2 (fun _ => False)) (fun _ _ h => h.elim)).trans (Off.set _ hb 2 _) (fun _ _ h => h)⟩⟩
              clear hW0 HOO
              go_still_tail 9, (by kernel_rfl)
              change wpList _ _ _ _ _ wq2.drew
              clear d2
              generalize hwd : wq2.drew = wd2 at e2 HNW ⊢
              obtain ⟨q2, d2⟩ := e2 wd2 rfl
              have HNX := Aside0.mk (HNW.out wd2 rfl)
              clear e2 HNW hwd
              go_wp2_with fail
              obtain ⟨hW0, hOO⟩ := HNX.out
              have HOO := Aside0.mk hOO
              clear hOO HNX q2 d2 j2
              generalize wd2.setCell ⟨hb, 2, none⟩ (.int .u32 (nc : Int)) = wq3 at hW0 HOO ⊢
              have d3 : wq3.cell? ⟨hb, 3, none⟩ = some (.int .u32 (sd : Int)) := (Lib.cell_of_heap hW0 3).trans rfl
              have e3 : ∀ W, W = wq3.drew → W.frozen? ⟨hb, 3, none⟩ = false ∧ W.cell? ⟨hb, 3, none⟩ = some (.int .u32 (sd : Int)) := fun W hW => by subst hW; exact ⟨Lib.frozen_of_heap hW0 3, d3⟩
              have j3 := idx75 hb 0 3 3 rfl (by omega)
              rw [Nat.zero_add] at j3
              have HNW : Aside0 (∀ W, W = wq3.drew → ((W.setCell ⟨hb, 3, none⟩ (.int .u32 (nd : Int))).heap[hb]? = some (.cells #[.int .u32 (na : Int), .int .u32 (nb : Int), .int .u32 (nc : Int), .int .u32 (nd : Int), .int .u32 (se : Int), blk, .int .u64 lng] 62 (0, 0))) ∧ Off w (W.setCell ⟨hb, 3, none⟩ (.int .u32 (nd : Int))) (fun k => k = hb)) := ⟨fun W hW => by
                subst hW
                exact ⟨(Lib.heap_setCell_same (w := wq3.drew) (i := 3) hW0 _).trans rfl, (HOO.out.trans (Off.drew wq3 (fun _ => False)) (fun _ _ h => h.elim)).trans (Off.set _ hb 3 _) (fun _ _ h => h)⟩⟩
              clear hW0 HOO
              go_still_tail 9, (by kernel_rfl)
              change wpList _ _ _ _ _ wq3.drew
              clear d3
              generalize hwd : wq3.drew = wd3 at e3 HNW ⊢
              obtain ⟨q3, d3⟩ := e3 wd3 rfl
              have HNX := Aside0.mk (HNW.out wd3 rfl)
              clear e3 HNW hwd
              go_wp2_with fail
              obtain ⟨hW0, hOO⟩ := HNX.out
              have HOO := Aside0.mk hOO
              clear hOO HNX q3 d3 j3
              generalize wd3.setCell ⟨hb, 3, none⟩ (.int .u32 (nd : Int)) = wq4 at hW0 HOO ⊢
              have d4 : wq4.cell? ⟨hb, 4, none⟩ = some (.int .u32 (se : Int)) := (Lib.cell_of_heap hW0 4).trans rfl
              have e4 : ∀ W, W = wq4.drew → W.frozen? ⟨hb, 4, none⟩ = false ∧ W.cell? ⟨hb, 4, none⟩ = some (.int .u32 (se : Int)) := fun W hW => by subst hW; exact ⟨Lib.frozen_of_heap hW0 4, d4⟩
              have j4 := idx75 hb 0 4 4 rfl (by omega)
              rw [Nat.zero_add] at j4
              have HNW : Aside0 (∀ W, W = wq4.drew → ((W.setCell ⟨hb, 4, none⟩ (.int .u32 (ne : Int))).heap[hb]? = some (.cells #[.int .u32 (na : Int), .int .u32 (nb : Int), .int .u32 (nc : Int), .int .u32 (nd : Int), .int .u32 (ne : Int), blk, .int .u64 lng] 62 (0, 0))) ∧ Off w (W.setCell ⟨hb, 4, none⟩ (.int .u32 (ne : Int))) (fun k => k = hb)) := ⟨fun W hW => by
                subst hW
                exact ⟨(Lib.heap_setCell_same (w := wq4.drew) (i := 4) hW0 _).trans rfl, (HOO.out.trans (Off.drew wq4 (fun _ => False)) (fun _ _ h => h.elim)).trans (Off.set _ hb 4 _) (fun _ _ h => h)⟩⟩
              clear hW0 HOO
              go_still_tail 9, (by kernel_rfl)
              change wpList _ _ _ _ _ wq4.drew
              clear d4
              generalize hwd : wq4.drew = wd4 at e4 HNW ⊢
              obtain ⟨q4, d4⟩ := e4 wd4 rfl
              have HNX := Aside0.mk (HNW.out wd4 rfl)
              clear e4 HNW hwd
              go_wp2_with fail
              go_end0
              exact ⟨rfl, ⟨na, nb, nc, nd, ne, HST.out, HNX.out.1⟩, HNX.out.2⟩
end Go.Proofs.YthpoiceceogdhaaDoor.ShaA
