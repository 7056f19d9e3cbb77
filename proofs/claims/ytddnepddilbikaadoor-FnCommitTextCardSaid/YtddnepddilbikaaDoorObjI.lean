/- impl.hashesOf, walked. object.Commit.encode. impl.EncodeCommit, walked. -/
import Derived.Test.YtddnepddilbikaaDoorSrtL
import Derived.Test.YtddnepddilbikaaDoorTxt
import Derived.Test.YtddnepddilbikaaDoorObjE
import Derived.Test.YtddnepddilbikaaDoorObjF
import Derived.Laws.Tables
set_option linter.unusedVariables false
set_option linter.unusedSimpArgs false
namespace Go.Proofs.YtddnepddilbikaaDoor.ObjH
open Go.RowKit Go.Proofs.YtddnepddilbikaaDoorW.PrintWords Go.Proofs.YtddnepddilbikaaDoorW.PrintLast Go.Proofs.YtddnepddilbikaaDoorW.PrintMore Go.Proofs.YtddnepddilbikaaDoor.QAll Ptr SrtL

/-- Hashes in a row, by their names. -/
def kH : Kd ByteArray where
  sz := 20
  E := []
  K := fun _ s cs => cs = hcells (hb s)
  M := fun _ _ _ s cs => cs = hcells (hb s)
  K_len := by
    rintro w s cs rfl
    rfl
  K_one := by
    rintro w s cs rfl
    exact hcells_one _
  K_below := fun _ h => h
  K_of_M := fun h => h
  M_mono := fun _ h => h
  M_bound := fun h => h
  M_move := fun _ h => h
  M_lower := fun _ h => h
theorem info51z : (Tryd.prog.info? 51).map (fun i => (i.zero, i.size, i.bytes)) = some (some (.agg #[.int .u8 0, .int .u8 0, .int .u8 0, .int .u8 0, .int .u8 0, .int .u8 0, .int .u8 0, .int .u8 0, .int .u8 0, .int .u8 0, .int .u8 0, .int .u8 0, .int .u8 0, .int .u8 0, .int .u8 0, .int .u8 0, .int .u8 0, .int .u8 0, .int .u8 0, .int .u8 0]), 20, 20) := by kernel_rfl
theorem rdS (l : List ByteArray) (k : Nat) (h : k < l.length) : rdOf ByteArray.empty l (k : Int) = l[k] := by
  unfold rdOf
  rw [Int.toNat_natCast, List.getD_eq_getElem?_getD, List.getElem?_eq_getElem h]
  rfl
set_option maxHeartbeats 16000000 in
set_option maxRecDepth 100000 in
theorem hashesOf (A0 : Option Addr) (c : Nat) (l : List ByteArray) (ev : Value) (w : World) (hC : Kd.C Kd.string w A0 l.length l) (hn : l.length ≤ 1000) (hE : w.cell? ⟨2, 0, none⟩ = some ev) (hg : ∀ s ∈ l, s.size = 40 ∧ (dec s).length = 20) :
    Calls Tryd.prog 39 #[.slice A0 l.length c] w fun e w' => ∃ v, e = .returned v ∧ kH.R 51 w' w.heap.size (fun _ => True) v l ∧ Below w.heap.size w w' := by
  have HC := Aside0.mk hC
  have HN := Aside0.mk hn
  have HE := Aside0.mk hE
  have HGA := Aside0.mk hg
  clear hC hn hE hg
  go_enter Tryd.func39, Tryd.ntmps39
  go_wp2
  go_loopg [3, 8] l.length (fun gk v3 v8 w' => ∃ (k : Nat) (V : Value), v3 = V ∧ v8 = .int .i64 (k : Int) ∧ Aside0 (k + gk = l.length) ∧ Aside0 (Below w.heap.size w w') ∧ Aside0 (kH.R 51 w' w.heap.size (fun _ => True) V (l.take k)))
  case atStart => exact ⟨0, .slice none 0 0, rfl, rfl, ⟨by omega⟩, ⟨Below.refl _ _⟩, ⟨Kd.R_nil _ _ _ _ _⟩⟩
  case round =>
    obtain ⟨k, V, hV, rfl, HK, HB, HR⟩ := hrel
    replace hV := hV.symm
    subst hV
    by_cases hlt : k < l.length
    rotate_left
    · obtain rfl : k = l.length := by have := HK.out; omega
      have hR := HR.out
      rw [List.take_length] at hR
      have HR2 := Aside0.mk hR
      clear hR
      go_wp2
      go_ret
      exact ⟨V, rfl, HR2.out, HB.out⟩
    obtain ⟨g0, rfl⟩ : ∃ m, gk = m + 1 := ⟨gk - 1, by have := HK.out; omega⟩
    have hk1 : (k : Int) < (l.length : Int) := by omega
    obtain ⟨ad, rfl, hx0⟩ := Kd.at_string (Kd.C_below HC.out HB.out) (k : Int) (by omega) hk1
    rw [rdS l k hlt, Int.toNat_natCast] at hx0
    have HTK : Aside0 (l.take (k + 1) = l.take k ++ [l[k]]) := ⟨by rw [List.take_succ_eq_append_getElem hlt]⟩
    have HG := Aside0.mk (HGA.out l[k] (List.getElem_mem hlt))
    generalize l[k] = s at hx0 HTK HG
    have HNW : Aside0 (∀ W, Below w.heap.size w W → Calls Tryd.prog 32 #[.string s] W fun e w' => e = .returned (.agg #[.int .u8 (hb s 0), .int .u8 (hb s 1), .int .u8 (hb s 2), .int .u8 (hb s 3), .int .u8 (hb s 4), .int .u8 (hb s 5), .int .u8 (hb s 6), .int .u8 (hb s 7), .int .u8 (hb s 8), .int .u8 (hb s 9), .int .u8 (hb s 10), .int .u8 (hb s 11), .int .u8 (hb s 12), .int .u8 (hb s 13), .int .u8 (hb s 14), .int .u8 (hb s 15), .int .u8 (hb s 16), .int .u8 (hb s 17), .int .u8 (hb s 18), .int .u8 (hb s 19)]) ∧ Below W.heap.size W w') := ⟨fun W hW => newHash s (hb s) (fun _ _ => rfl) ev W (pw_cell_below hW HE.out) HG.out.1 HG.out.2⟩
    have HWK : Aside0 (wrap64 ((k : Int) + 1) = ((k + 1 : Nat) : Int)) := ⟨by have := HN.out; unfold wrap64; omega⟩
    go_wp2_with (first
      | (go_at_call 32
         (with_reducible refine (HNW.out _ HB.out).mono ?_)
         rintro x w2 ⟨rfl, hb2⟩
         have HB2 := Aside0.mk (HB.out.trans (hb2.mono HB.out.size))
         have HR2 := Aside0.mk (Kd.R_below HR.out hb2)
         clear hb2)
      | ((with_reducible refine gate_builtin (b := .append) (xs := #[.tmp 12, .tmp 15]) rfl ?_)
         at_builtin
         refine Kd.R_append kH (w0 := w) (W := w2) w.heap.size rfl (.tmp 12) (.tmp 15) 84 51 (.agg #[.int .u8 0, .int .u8 0, .int .u8 0, .int .u8 0, .int .u8 0, .int .u8 0, .int .u8 0, .int .u8 0, .int .u8 0, .int .u8 0, .int .u8 0, .int .u8 0, .int .u8 0, .int .u8 0, .int .u8 0, .int .u8 0, .int .u8 0, .int .u8 0, .int .u8 0, .int .u8 0]) 20 rfl Tryd.underlying84 info51z rfl (by decide) (by decide) V (l.take k) s [.int .u8 (hb s 0), .int .u8 (hb s 1), .int .u8 (hb s 2), .int .u8 (hb s 3), .int .u8 (hb s 4), .int .u8 (hb s 5), .int .u8 (hb s 6), .int .u8 (hb s 7), .int .u8 (hb s 8), .int .u8 (hb s 9), .int .u8 (hb s 10), .int .u8 (hb s 11), .int .u8 (hb s 12), .int .u8 (hb s 13), .int .u8 (hb s 14), .int .u8 (hb s 15), .int .u8 (hb s 16), .int .u8 (hb s 17), .int .u8 (hb s 18), .int .u8 (hb s 19)] (fun _ => True) (fun _ => False) rfl ?hx rfl (fun _ h => h.elim) (fun _ _ => trivial) HR2.out HB2.out HB2.out.size ?hlen ?_
         (case hx => first | (go_simp; done) | rfl | (simp [Act.eval]; done))
         (case hlen => rw [List.length_take]; have := HN.out; omega)
         intro v9 w9 ho9 hb9 hg9 hat9
         have HR9 := Aside0.mk ho9
         have HB9 := Aside0.mk hb9
         clear ho9 hb9 hg9 hat9)
      | fail)
    go_roundg g0
    case measure => omega
    case rel => exact ⟨k + 1, v9, rfl, by rw [HWK.out], ⟨by have := HK.out; omega⟩, HB9, ⟨by have := HR9.out; rw [← HTK.out] at this; exact this⟩⟩
end Go.Proofs.YtddnepddilbikaaDoor.ObjH

set_option linter.unusedVariables false
set_option linter.unusedSimpArgs false
namespace Go.Proofs.YtddnepddilbikaaDoor.ObjI
open Go.RowKit Go.Proofs.YtddnepddilbikaaDoorW.PrintLast Go.Proofs.YtddnepddilbikaaDoorW.PrintMore Go.Proofs.YtddnepddilbikaaDoor.QAll Ptr SrtL ObjA ObjB ObjC ObjD ObjE ObjH
open Go.Proofs.YtddnepddilbikaaDoorW.PrintWords hiding nums

/-- A commit's cells. -/
def ccells (tv : Nat → Int) (an ae : ByteArray) (asec ansec az : Int) (cn ce : ByteArray) (csec cnsec cz : Int) (pgp msg : ByteArray) (PV : Value) (enc : ByteArray) : Array Value :=
  #[.int .u8 0, .int .u8 0, .int .u8 0, .int .u8 0, .int .u8 0, .int .u8 0, .int .u8 0, .int .u8 0, .int .u8 0, .int .u8 0, .int .u8 0, .int .u8 0, .int .u8 0, .int .u8 0, .int .u8 0, .int .u8 0, .int .u8 0, .int .u8 0, .int .u8 0, .int .u8 0, .string an, .string ae, .int .i64 asec, .int .i64 ansec, .int .i64 az, .string cn, .string ce, .int .i64 csec, .int .i64 cnsec, .int .i64 cz, .string ⟨#[]⟩, .string pgp, .string msg,
    .int .u8 (tv 0), .int .u8 (tv 1), .int .u8 (tv 2), .int .u8 (tv 3), .int .u8 (tv 4), .int .u8 (tv 5), .int .u8 (tv 6), .int .u8 (tv 7), .int .u8 (tv 8), .int .u8 (tv 9), .int .u8 (tv 10), .int .u8 (tv 11), .int .u8 (tv 12), .int .u8 (tv 13), .int .u8 (tv 14), .int .u8 (tv 15), .int .u8 (tv 16), .int .u8 (tv 17), .int .u8 (tv 18), .int .u8 (tv 19), PV, .string enc, .slice none 0 0, .nilIface, .nilIface]
/-- The walk's state. -/
structure Ca (w0 W : World) (o E g : Nat) (tv : Nat → Int) (an ae : ByteArray) (asec ansec az : Int) (cn ce : ByteArray) (csec cnsec cz : Int) (pgp msg : ByteArray) (PV : Value) (enc : ByteArray) (pb : Nat) (pcs : Array Value) (np : Nat) (l : List Int) : Prop where
  mo : Mo w0 W o 1 l
  e : W.heap[E]? = some (.cells #[.nilIface] 63 (0, 0))
  t : W.heap[g]? = some (.cells (ccells tv an ae asec ansec az cn ce csec cnsec cz pgp msg PV enc) 89 (0, 0))
  p : 0 < np → W.heap[pb]? = some (.cells pcs 51 (0, 0))
section
variable {w0 W : World} {o E g : Nat} {tv : Nat → Int} {an ae : ByteArray} {asec ansec az : Int} {cn ce : ByteArray} {csec cnsec cz : Int} {pgp msg : ByteArray} {PV : Value} {enc : ByteArray} {pb : Nat} {pcs : Array Value} {np : Nat} {l : List Int}
theorem Ca.below {W' : World} (h : Ca w0 W o E g tv an ae asec ansec az cn ce csec cnsec cz pgp msg PV enc pb pcs np (l)) (hb : Below W.heap.size W W') : Ca w0 W' o E g tv an ae asec ansec az cn ce csec cnsec cz pgp msg PV enc pb pcs np (l) :=
  ⟨h.mo.below hb, (hb.block E (blk_lt h.e)).trans h.e, (hb.block g (blk_lt h.t)).trans h.t, fun k => (hb.block pb (blk_lt (h.p k))).trans (h.p k)⟩
theorem Ca.kp {W' : World} {l' : List Int} (h : Ca w0 W o E g tv an ae asec ansec az cn ce csec cnsec cz pgp msg PV enc pb pcs np (l)) (hm : Mo w0 W' o 1 l') (hk : Kp o W W') (hE : E ≠ o) (hg : g ≠ o) (hp : 0 < np → pb ≠ o) : Ca w0 W' o E g tv an ae asec ansec az cn ce csec cnsec cz pgp msg PV enc pb pcs np l' :=
  ⟨hm, hk.2 E _ _ hE (by decide) h.e, hk.2 g _ _ hg (by decide) h.t, fun k => hk.2 pb _ _ (hp k) (by decide) (h.p k)⟩
theorem Ca.res (h : Ca w0 W o E g tv an ae asec ansec az cn ce csec cnsec cz pgp msg PV enc pb pcs np (l)) : W.cell? ⟨E, 0, none⟩ = some .nilIface ∧ W.frozen? ⟨E, 0, none⟩ = false ∧ W.setCell ⟨E, 0, none⟩ .nilIface = W :=
  ⟨(Lib.cell_of_heap h.e 0).trans rfl, Lib.frozen_of_heap h.e 0, setCell_same h.e⟩
theorem Ca.cells (h : Ca w0 W o E g tv an ae asec ansec az cn ce csec cnsec cz pgp msg PV enc pb pcs np (l)) : W.cell? ⟨g, 30, none⟩ = some (.string ⟨#[]⟩) ∧ W.cell? ⟨g, 31, none⟩ = some (.string pgp) ∧ W.cell? ⟨g, 32, none⟩ = some (.string msg) ∧ W.cell? ⟨g, 53, none⟩ = some PV ∧ W.cell? ⟨g, 54, none⟩ = some (.string enc) ∧ W.cell? ⟨g, 55, none⟩ = some (.slice none 0 0) :=
  ⟨(Lib.cell_of_heap h.t 30).trans rfl, (Lib.cell_of_heap h.t 31).trans rfl, (Lib.cell_of_heap h.t 32).trans rfl, (Lib.cell_of_heap h.t 53).trans rfl, (Lib.cell_of_heap h.t 54).trans rfl, (Lib.cell_of_heap h.t 55).trans rfl⟩
theorem Ca.tree (h : Ca w0 W o E g tv an ae asec ansec az cn ce csec cnsec cz pgp msg PV enc pb pcs np (l)) : W.rangeAt g 33 (hcells tv) := by
  intro j v hj
  obtain ⟨h1, rfl⟩ := hcells_at tv j v hj
  rw [Lib.cell_of_heap h.t]
  have : ∀ j, j < 20 → (ccells tv an ae asec ansec az cn ce csec cnsec cz pgp msg PV enc)[33 + j]? = some (.int .u8 (tv j)) := by
    intro j hj
    iterate 20 (rcases j with _ | j; · rfl)
    omega
  exact this j h1
theorem Ca.par (h : Ca w0 W o E g tv an ae asec ansec az cn ce csec cnsec cz pgp msg PV enc pb pcs np (l)) {k : Nat} {s : ByteArray} (hn : 0 < np) (hs : ∀ j, j < 20 → pcs[k * 20 + j]? = some (.int .u8 (hb s j))) : W.rangeAt pb (k * 20) (hcells (hb s)) := by
  intro j v hj
  obtain ⟨h1, rfl⟩ := hcells_at (hb s) j v hj
  rw [Lib.cell_of_heap (h.p hn)]
  exact hs j h1
theorem Ca.put (h : Ca w0 W o E g tv an ae asec ansec az cn ce csec cnsec cz pgp msg PV enc pb pcs np (l)) (hE : E ≠ o) (hg : g ≠ o) (hp : 0 < np → pb ≠ o) (s : ByteArray) (hl : l.length + s.size ≤ 1000000000) :
    Calls Tryd.prog 48 #[.iface 57 (.pointer (some ⟨o, 0, none⟩)), .string s] W fun e w' => ∃ n, e = .returned (.tuple #[.int .i64 n, .nilIface]) ∧ Ca w0 w' o E g tv an ae asec ansec az cn ce csec cnsec cz pgp msg PV enc pb pcs np (l ++ nums s) :=
  (writeString h.mo s hl).mono (by
    rintro e w' ⟨rfl, k1, k2⟩
    exact ⟨_, rfl, h.kp k1 k2 hE hg hp⟩)
end
theorem new_range (w : World) (hv : Nat → Int) : (w.alloc (.cells (hcells hv).toArray 51)).rangeAt w.heap.size 0 (hcells hv) := by
  intro j v hj
  rw [Lib.cell_of_heap (blk_new w _), Nat.zero_add, List.getElem?_toArray]
  exact hj

def cTree : ByteArray := ⟨#[116, 114, 101, 101, 32]⟩
def cPar : ByteArray := ⟨#[112, 97, 114, 101, 110, 116, 32]⟩
def cAuth : ByteArray := ⟨#[97, 117, 116, 104, 111, 114, 32]⟩
def cComm : ByteArray := ⟨#[10, 99, 111, 109, 109, 105, 116, 116, 101, 114, 32]⟩
def cSig : ByteArray := ⟨#[10, 103, 112, 103, 115, 105, 103, 32]⟩
def cNl2 : ByteArray := ⟨#[10, 10]⟩
/-- The parents' lines. -/
def parOut (ps : List ByteArray) : List Int := (ps.map fun s => nums (cPar ++ s ++ tNl)).flatten
theorem parOut_snoc (ps : List ByteArray) (s : ByteArray) : parOut (ps ++ [s]) = parOut ps ++ nums (cPar ++ s ++ tNl) := by
  unfold parOut
  rw [List.map_append, List.flatten_append]
  simp
theorem parOut_len (ps : List ByteArray) (h : ∀ s ∈ ps, s.size = 40) : (parOut ps).length = ps.length * 48 := by
  induction ps with
  | nil => rfl
  | cons s ps ih =>
    have e : parOut (s :: ps) = nums (cPar ++ s ++ tNl) ++ parOut ps := by unfold parOut; simp
    rw [e, List.length_append, ih (fun s hs => h s (List.mem_cons_of_mem _ hs)), nums_len, ByteArray.size_append, ByteArray.size_append, h s (List.mem_cons_self ..), List.length_cons]
    have l1 : cPar.size = 7 := rfl
    have l2 : tNl.size = 1 := rfl
    omega

theorem joinC (lines : List ByteArray) (J : ByteArray) (hJ : J = ⟨(Lib.join (lines.map (·.data.toList)) [10, 32]).toArray⟩) (hJl : J.size ≤ 1000000) (hln : lines.length ≤ 1000000) (W : World) (b : Nat) (v : Value) (hR : Kd.R Kd.string 9 W b (fun _ => True) v lines) :
    Calls Tryd.prog 71 #[v, .string ⟨#[10, 32]⟩] W fun e w' => e = .returned (.string J) ∧ Below W.heap.size W w' := by
  by_cases z : 0 < lines.length
  · obtain ⟨g, cq, rfl, _, hgl, _⟩ := Kd.R_form hR z
    rw [hJ]
    refine (Tryd.strings_Join g 0 cq lines ⟨#[10, 32]⟩ W (fun j x hx => ?_) hgl (by omega) ?_ ?_).mono (fun e w' h => h)
    · obtain ⟨hjl, rfl⟩ := List.getElem?_eq_some_iff.1 hx
      have h := (Kd.R_cell (e := 9) (g := g) (cap := cq) ByteArray.empty hR (j : Int) (by omega) (by omega)).1
      rw [Int.toNat_natCast, rdS _ _ hjl] at h
      rw [Nat.zero_add]
      exact h
    · obtain ⟨A', c', h1, h2, _⟩ := Kd.R_reads hR
      cases h1
      exact h2
    · have e : J.size = (Lib.join (lines.map (·.data.toList)) [10, 32]).length := by rw [hJ, Lib.size_eq]
      show (Lib.join _ [10, 32]).length ≤ _
      omega
  · have hz : lines = [] := List.eq_nil_of_length_eq_zero (by omega)
    obtain ⟨A', c', rfl⟩ := Kd.R_slice hR
    subst hz
    refine (Tryd.strings_Join_none A' c' ⟨#[10, 32]⟩ W).mono ?_
    rintro e w' ⟨rfl, rfl⟩
    exact ⟨by rw [hJ]; rfl, Below.refl _ _⟩

set_option maxHeartbeats 16000000 in
set_option maxRecDepth 100000 in
theorem commitPlain {w0 W : World} {o g : Nat} {tv : Nat → Int} {an ae : ByteArray} {asec ansec az : Int} {cn ce : ByteArray} {csec cnsec cz : Int} {pgp msg : ByteArray} {PV : Value} {enc : ByteArray} {pb : Nat} {pcs : Array Value} {np : Nat} {th : ByteArray} {ps : List ByteArray} {cp : Nat} {A : Option Addr} (h : Mo w0 W o 0 []) (ht : W.heap[g]? = some (.cells (ccells tv an ae asec ansec az cn ce csec cnsec cz pgp msg PV enc) 89 (0, 0))) (hgo : g ≠ o) (hp : 0 < np → W.heap[pb]? = some (.cells pcs 51 (0, 0))) (hpo : 0 < np → pb ≠ o)
    (hPV : PV = .slice A np cp) (hA : 0 < np → A = some ⟨pb, 0, none⟩) (hnp : np = ps.length) (hn1 : ps.length ≤ 1000) (hpc : ∀ (k : Nat) (s : ByteArray), ps[k]? = some s → ∀ j, j < 20 → pcs[k * 20 + j]? = some (.int .u8 (hb s j)))
    (hth : th = hexOf tv) (htr : ∀ i, i < 20 → 0 ≤ tv i ∧ tv i < 256) (hth40 : th.size = 40) (hps : ∀ s ∈ ps, s.size = 40 ∧ s = hexOf (hb s) ∧ ∀ i, i < 20 → 0 ≤ hb s i ∧ hb s i < 256)
    (ha0 : 62135596800 ≤ asec) (ha1 : asec ≤ 10000000000000) (haz : az.tmod 60 = 0) (haz0 : -360000 < az) (haz1 : az < 360000)
    (hc0 : 62135596800 ≤ csec) (hc1 : csec ≤ 10000000000000) (hcz : cz.tmod 60 = 0) (hcz0 : -360000 < cz) (hcz1 : cz < 360000)
    (hwa : (who an ae asec az).size ≤ 10000) (hwc : (who cn ce csec cz).size ≤ 10000) (hmsg : msg.size ≤ 1000000) (henc : enc = ⟨#[]⟩ ∨ enc = ⟨#[85, 84, 70, 45, 56]⟩) (hq : pgp = ⟨#[]⟩)
    (htab : ∀ W1, Below w0.heap.size w0 W1 → Lib.TabIs Tryd.prog W1 "internal/strconv.uint64pow10" .u64 Lib.pow10Tab) :
    Calls Tryd.prog 59 #[.pointer (some ⟨g, 0, none⟩), .iface 57 (.pointer (some ⟨o, 0, none⟩)), .bool true] W fun e w' => e = .returned .nilIface ∧ Mo w0 w' o 1 ([] ++ nums (cTree ++ th ++ tNl) ++ parOut ps ++ nums cAuth ++ nums (who an ae asec az) ++ nums cComm ++ nums (who cn ce csec cz) ++ nums (cNl2 ++ msg)) := by
  have l1 : cTree.size = 5 := rfl
  have l2 : cPar.size = 7 := rfl
  have l3 : cAuth.size = 7 := rfl
  have l4 : cComm.size = 11 := rfl
  have l5 : cSig.size = 8 := rfl
  have l6 : cNl2.size = 2 := rfl
  have l7 : tNl.size = 1 := rfl
  have hps40 : ∀ s ∈ ps, s.size = 40 := fun s hs => (hps s hs).1
  generalize hE : W.heap.size = E
  have hoE : E ≠ o := by have := h.lt; omega
  have hTA0 : ∀ W', Mo w0 W' o 1 [] → Kp o (W.alloc (.cells #[.nilIface] 63 (0, 0))) W' → Ca w0 W' o E g tv an ae asec ansec az cn ce csec cnsec cz pgp msg PV enc pb pcs np ([]) := fun W' hm hk =>
    ⟨hm, hk.2 E _ _ hoE (by decide) (by rw [← hE]; exact blk_new W _), hk.2 g _ _ hgo (by decide) ((Below.heap_alloc W _ g (blk_lt ht)).trans ht), fun z => hk.2 pb _ _ (hpo z) (by decide) ((Below.heap_alloc W _ pb (blk_lt (hp z))).trans (hp z))⟩
  have P1 : Aside0 (∀ W1, Ca w0 W1 o E g tv an ae asec ansec az cn ce csec cnsec cz pgp msg PV enc pb pcs np ([]) → Calls Tryd.prog 48 #[.iface 57 (.pointer (some ⟨o, 0, none⟩)), .string ((⟨#[116, 114, 101, 101, 32]⟩ : ByteArray) ++ th ++ (⟨#[10]⟩ : ByteArray))] W1 fun e w' => ∃ n, e = .returned (.tuple #[.int .i64 n, .nilIface]) ∧ Ca w0 w' o E g tv an ae asec ansec az cn ce csec cnsec cz pgp msg PV enc pb pcs np ([] ++ nums (cTree ++ th ++ tNl))) :=
    ⟨fun W1 h => by have q := h.put hoE hgo hpo (cTree ++ th ++ tNl) (by simp only [List.length_append, nums_len, List.length_nil, ByteArray.size_append, parOut_len ps hps40, l1, l2, l3, l4, l5, l6, l7]; omega); exact q⟩
  have PP : Aside0 (∀ (k : Nat) (s : ByteArray) W1, ps[k]? = some s → Ca w0 W1 o E g tv an ae asec ansec az cn ce csec cnsec cz pgp msg PV enc pb pcs np ([] ++ nums (cTree ++ th ++ tNl) ++ parOut (ps.take k)) → Calls Tryd.prog 48 #[.iface 57 (.pointer (some ⟨o, 0, none⟩)), .string ((⟨#[112, 97, 114, 101, 110, 116, 32]⟩ : ByteArray) ++ s ++ (⟨#[10]⟩ : ByteArray))] W1 fun e w' => ∃ n, e = .returned (.tuple #[.int .i64 n, .nilIface]) ∧ Ca w0 w' o E g tv an ae asec ansec az cn ce csec cnsec cz pgp msg PV enc pb pcs np ([] ++ nums (cTree ++ th ++ tNl) ++ parOut (ps.take (k + 1)))) :=
    ⟨fun k s W1 hk h => by
      have hkl := (List.getElem?_eq_some_iff.1 hk).1
      have e1 : ps.take (k + 1) = ps.take k ++ [s] := by rw [List.take_succ_eq_append_getElem hkl, (List.getElem?_eq_some_iff.1 hk).2]
      have q := h.put hoE hgo hpo (cPar ++ s ++ tNl) (by simp only [List.length_append, nums_len, List.length_nil, ByteArray.size_append, parOut_len (ps.take k) (fun s hs => hps40 s (List.mem_of_mem_take hs)), List.length_take, hps40 s (List.mem_of_getElem? hk), l1, l2, l3, l4, l5, l6, l7]; omega)
      rw [e1, parOut_snoc, ← List.append_assoc]
      exact q⟩
  have PA : Aside0 (∀ W1, Ca w0 W1 o E g tv an ae asec ansec az cn ce csec cnsec cz pgp msg PV enc pb pcs np ([] ++ nums (cTree ++ th ++ tNl) ++ parOut ps) → Calls Tryd.prog 48 #[.iface 57 (.pointer (some ⟨o, 0, none⟩)), .string ((⟨#[97, 117, 116, 104, 111, 114, 32]⟩ : ByteArray))] W1 fun e w' => ∃ n, e = .returned (.tuple #[.int .i64 n, .nilIface]) ∧ Ca w0 w' o E g tv an ae asec ansec az cn ce csec cnsec cz pgp msg PV enc pb pcs np ([] ++ nums (cTree ++ th ++ tNl) ++ parOut ps ++ nums cAuth)) :=
    ⟨fun W1 h => by have q := h.put hoE hgo hpo (cAuth) (by simp only [List.length_append, nums_len, List.length_nil, ByteArray.size_append, parOut_len ps hps40, l1, l2, l3, l4, l5, l6, l7]; omega); exact q⟩
  have PC : Aside0 (∀ W1, Ca w0 W1 o E g tv an ae asec ansec az cn ce csec cnsec cz pgp msg PV enc pb pcs np ([] ++ nums (cTree ++ th ++ tNl) ++ parOut ps ++ nums cAuth ++ nums (who an ae asec az)) → Calls Tryd.prog 48 #[.iface 57 (.pointer (some ⟨o, 0, none⟩)), .string ((⟨#[10, 99, 111, 109, 109, 105, 116, 116, 101, 114, 32]⟩ : ByteArray))] W1 fun e w' => ∃ n, e = .returned (.tuple #[.int .i64 n, .nilIface]) ∧ Ca w0 w' o E g tv an ae asec ansec az cn ce csec cnsec cz pgp msg PV enc pb pcs np ([] ++ nums (cTree ++ th ++ tNl) ++ parOut ps ++ nums cAuth ++ nums (who an ae asec az) ++ nums cComm)) :=
    ⟨fun W1 h => by have q := h.put hoE hgo hpo (cComm) (by simp only [List.length_append, nums_len, List.length_nil, ByteArray.size_append, parOut_len ps hps40, l1, l2, l3, l4, l5, l6, l7]; omega); exact q⟩
  have PA2 : Aside0 (∀ W1, Ca w0 W1 o E g tv an ae asec ansec az cn ce csec cnsec cz pgp msg PV enc pb pcs np ([] ++ nums (cTree ++ th ++ tNl) ++ parOut ps ++ nums cAuth) → Calls Tryd.prog 67 #[.pointer (some ⟨g, 20, none⟩), .iface 57 (.pointer (some ⟨o, 0, none⟩))] W1 fun e w' => e = .returned .nilIface ∧ Ca w0 w' o E g tv an ae asec ansec az cn ce csec cnsec cz pgp msg PV enc pb pcs np ([] ++ nums (cTree ++ th ++ tNl) ++ parOut ps ++ nums cAuth ++ nums (who an ae asec az))) :=
    ⟨fun W1 h => (encodeWho h.mo h.t hgo (by decide) ⟨(Lib.cell_of_heap h.t 20).trans rfl, (Lib.cell_of_heap h.t 21).trans rfl, (Lib.cell_of_heap h.t 22).trans rfl, (Lib.cell_of_heap h.t 23).trans rfl, (Lib.cell_of_heap h.t 24).trans rfl⟩ ha0 ha1 haz haz0 haz1 (by simp only [List.length_append, nums_len, List.length_nil, ByteArray.size_append, parOut_len ps hps40, l1, l2, l3, l4, l5, l6, l7]; omega) htab).mono (by
      rintro e w' ⟨rfl, k1, k2⟩
      exact ⟨rfl, h.kp k1 k2 hoE hgo hpo⟩)⟩
  have PC2 : Aside0 (∀ W1, Ca w0 W1 o E g tv an ae asec ansec az cn ce csec cnsec cz pgp msg PV enc pb pcs np ([] ++ nums (cTree ++ th ++ tNl) ++ parOut ps ++ nums cAuth ++ nums (who an ae asec az) ++ nums cComm) → Calls Tryd.prog 67 #[.pointer (some ⟨g, 25, none⟩), .iface 57 (.pointer (some ⟨o, 0, none⟩))] W1 fun e w' => e = .returned .nilIface ∧ Ca w0 w' o E g tv an ae asec ansec az cn ce csec cnsec cz pgp msg PV enc pb pcs np ([] ++ nums (cTree ++ th ++ tNl) ++ parOut ps ++ nums cAuth ++ nums (who an ae asec az) ++ nums cComm ++ nums (who cn ce csec cz))) :=
    ⟨fun W1 h => (encodeWho h.mo h.t hgo (by decide) ⟨(Lib.cell_of_heap h.t 25).trans rfl, (Lib.cell_of_heap h.t 26).trans rfl, (Lib.cell_of_heap h.t 27).trans rfl, (Lib.cell_of_heap h.t 28).trans rfl, (Lib.cell_of_heap h.t 29).trans rfl⟩ hc0 hc1 hcz hcz0 hcz1 (by simp only [List.length_append, nums_len, List.length_nil, ByteArray.size_append, parOut_len ps hps40, l1, l2, l3, l4, l5, l6, l7]; omega) htab).mono (by
      rintro e w' ⟨rfl, k1, k2⟩
      exact ⟨rfl, h.kp k1 k2 hoE hgo hpo⟩)⟩
  have PM : Aside0 (∀ W1, Ca w0 W1 o E g tv an ae asec ansec az cn ce csec cnsec cz pgp msg PV enc pb pcs np ([] ++ nums (cTree ++ th ++ tNl) ++ parOut ps ++ nums cAuth ++ nums (who an ae asec az) ++ nums cComm ++ nums (who cn ce csec cz)) → Calls Tryd.prog 48 #[.iface 57 (.pointer (some ⟨o, 0, none⟩)), .string ((⟨#[10, 10]⟩ : ByteArray) ++ msg)] W1 fun e w' => ∃ n, e = .returned (.tuple #[.int .i64 n, .nilIface]) ∧ Ca w0 w' o E g tv an ae asec ansec az cn ce csec cnsec cz pgp msg PV enc pb pcs np ([] ++ nums (cTree ++ th ++ tNl) ++ parOut ps ++ nums cAuth ++ nums (who an ae asec az) ++ nums cComm ++ nums (who cn ce csec cz) ++ nums (cNl2 ++ msg))) :=
    ⟨fun W1 h => by have q := h.put hoE hgo hpo (cNl2 ++ msg) (by simp only [List.length_append, nums_len, List.length_nil, ByteArray.size_append, parOut_len ps hps40, l1, l2, l3, l4, l5, l6, l7]; omega); exact q⟩
  have PH : Aside0 (∀ W1 l, Ca w0 W1 o E g tv an ae asec ansec az cn ce csec cnsec cz pgp msg PV enc pb pcs np (l) → Calls Tryd.prog 64 #[.agg #[.int .u8 (tv 0), .int .u8 (tv 1), .int .u8 (tv 2), .int .u8 (tv 3), .int .u8 (tv 4), .int .u8 (tv 5), .int .u8 (tv 6), .int .u8 (tv 7), .int .u8 (tv 8), .int .u8 (tv 9), .int .u8 (tv 10), .int .u8 (tv 11), .int .u8 (tv 12), .int .u8 (tv 13), .int .u8 (tv 14), .int .u8 (tv 15), .int .u8 (tv 16), .int .u8 (tv 17), .int .u8 (tv 18), .int .u8 (tv 19)]] W1 fun e w' => e = .returned (.string th) ∧ Ca w0 w' o E g tv an ae asec ansec az cn ce csec cnsec cz pgp msg PV enc pb pcs np (l)) :=
    ⟨fun W1 l h => (hashString tv th hth htr W1).mono (by
      rintro e w' ⟨rfl, k⟩
      exact ⟨rfl, h.below k⟩)⟩
  have PH2 : Aside0 (∀ (s : ByteArray) W1 l, s ∈ ps → Ca w0 W1 o E g tv an ae asec ansec az cn ce csec cnsec cz pgp msg PV enc pb pcs np (l) → Calls Tryd.prog 64 #[.agg #[.int .u8 (hb s 0), .int .u8 (hb s 1), .int .u8 (hb s 2), .int .u8 (hb s 3), .int .u8 (hb s 4), .int .u8 (hb s 5), .int .u8 (hb s 6), .int .u8 (hb s 7), .int .u8 (hb s 8), .int .u8 (hb s 9), .int .u8 (hb s 10), .int .u8 (hb s 11), .int .u8 (hb s 12), .int .u8 (hb s 13), .int .u8 (hb s 14), .int .u8 (hb s 15), .int .u8 (hb s 16), .int .u8 (hb s 17), .int .u8 (hb s 18), .int .u8 (hb s 19)]] W1 fun e w' => e = .returned (.string s) ∧ Ca w0 w' o E g tv an ae asec ansec az cn ce csec cnsec cz pgp msg PV enc pb pcs np (l)) :=
    ⟨fun s W1 l hs h => (hashString (hb s) s (hps s hs).2.1 (hps s hs).2.2 W1).mono (by
      rintro e w' ⟨rfl, k⟩
      exact ⟨rfl, h.below k⟩)⟩
  have hB0 := Below.alloc (Below.refl W.heap.size W) (Nat.le_refl _) (.cells #[.nilIface] 63 (0, 0))
  have PSE : Aside0 (Calls Tryd.prog 129 #[.pointer (some ⟨o, 0, none⟩), .int .i8 1] (W.alloc (.cells #[.nilIface] 63 (0, 0))) fun e w' => e = .returned (.tuple #[]) ∧ Ca w0 w' o E g tv an ae asec ansec az cn ce csec cnsec cz pgp msg PV enc pb pcs np ([])) :=
    ⟨(setType (h.below hB0) 1).mono (by
      rintro e w' ⟨rfl, k1, k2⟩
      exact ⟨rfl, hTA0 w' k1 k2⟩)⟩
  have PW : Aside0 (∀ W1, Ca w0 W1 o E g tv an ae asec ansec az cn ce csec cnsec cz pgp msg PV enc pb pcs np ([]) → Calls Tryd.prog 131 #[.pointer (some ⟨o, 0, none⟩)] W1 fun e w' => e = .returned (.tuple #[.iface 57 (.pointer (some ⟨o, 0, none⟩)), .nilIface]) ∧ w' = W1) :=
    ⟨fun W1 h => writer o W1⟩
  have hmw := fun g W => mSetType 328/-FUEL-/ g W
  have hmv := fun g W => mWriter 328/-FUEL-/ g W
  have HPC := Aside0.mk hpc
  have HPS40 := Aside0.mk hps40
  have HAA := Aside0.mk hA
  have HNP := Aside0.mk (And.intro hnp hn1)
  have zm : 2 + msg.size ≤ 9223372036854775807 := by omega
  have HPV := Aside0.mk hPV
  have hqe : pgp.toList = [] := by rw [hq]; exact Txt.toList_lit #[]
  have hqe2 : pgp.toList.isEmpty = true := by rw [hqe]; rfl
  clear hq
  clear hPV h ht hp hpo hA hnp hn1 hpc hth htr hps ha0 ha1 haz haz0 haz1 hc0 hc1 hcz hcz0 hcz1 hwa hwc hmsg htab hps40 hTA0 hB0 l1 l2 l3 l4 l5 l6 l7
  have hen : (enc.toList = [] ∧ enc.toList.isEmpty = true) ∨ (¬ enc.toList = [] ∧ enc.toList.isEmpty = false ∧ (enc.toList == [85, 84, 70, 45, 56]) = true) := by
    rcases henc with rfl | rfl
    · exact Or.inl ⟨Txt.toList_lit #[], by rw [Txt.toList_lit]; rfl⟩
    · exact Or.inr ⟨by rw [Txt.toList_lit]; decide, by rw [Txt.toList_lit]; decide, by rw [Txt.toList_lit]; decide⟩
  clear henc
  rcases hen with ⟨hen1, hen2⟩ | ⟨hen1, hen2, hen3⟩
  all_goals
    go_enter_defers Tryd.func59, Tryd.ntmps59
    go_upto_region 10 with (first
      | (go_at_call 129
         (with_reducible refine PSE.out.mono ?_)
         rintro x wa ⟨rfl, k⟩
         have T0 := Aside0.mk k
         obtain ⟨e0, e1, e2⟩ := k.res
         clear k)
      | (go_at_call 131
         (with_reducible refine (PW.out _ T0.out).mono ?_)
         rintro x wb ⟨rfl, rfl⟩)
      | ((with_reducible refine gate_dst (N := 32) rfl ?_); refine wpList_load_mid rfl 51 (.tmp 31) rfl g 33 ?hx [.int .u8 (tv 0), .int .u8 (tv 1), .int .u8 (tv 2), .int .u8 (tv 3), .int .u8 (tv 4), .int .u8 (tv 5), .int .u8 (tv 6), .int .u8 (tv 7), .int .u8 (tv 8), .int .u8 (tv 9), .int .u8 (tv 10), .int .u8 (tv 11), .int .u8 (tv 12), .int .u8 (tv 13), .int .u8 (tv 14), .int .u8 (tv 15), .int .u8 (tv 16), .int .u8 (tv 17), .int .u8 (tv 18), .int .u8 (tv 19)] _ T0.out.tree Tryd.underlying51 rfl info41 ?_
         case hx => first | rfl | (simp [Act.eval]; done) | (go_simp; done))
      | (go_at_call 64
         (with_reducible refine (PH.out _ _ T0.out).mono ?_)
         rintro x wc ⟨rfl, k⟩
         have T1 := Aside0.mk k
         obtain ⟨e0, e1, e2⟩ := k.res
         clear k)
      | (go_at_call 48
         (with_reducible refine (P1.out _ T1.out).mono ?_)
         rintro x wd ⟨n1, rfl, k⟩
         have T2 := Aside0.mk k
         obtain ⟨e0, e1, e2⟩ := k.res
         obtain ⟨c30, c31, c32, c53, c54, c55⟩ := k.cells
         rw [HPV.out] at c53
         clear k)
      | fail)
    clear PSE PW PH P1 T0 T1 hmw hmv c30 c31 c32 c53 c54 c55
    go_loopg [47] np (fun gk v47 w' => ∃ k : Nat, v47 = .int .i64 (k : Int) ∧ Aside0 (k + gk = np) ∧ Aside0 (Ca w0 w' o E g tv an ae asec ansec az cn ce csec cnsec cz pgp msg PV enc pb pcs np ([] ++ nums (cTree ++ th ++ tNl) ++ parOut (ps.take k))))
    case atStart => exact ⟨0, rfl, ⟨by omega⟩, ⟨by rw [show parOut (ps.take 0) = [] from rfl, List.append_nil]; exact T2.out⟩⟩
    case round =>
      obtain ⟨k, rfl, HK, HC⟩ := hrel
      clear T2 e0 e1 e2
      by_cases hlt : k < np
      · obtain ⟨m, rfl⟩ : ∃ m, gk = m + 1 := ⟨gk - 1, by have := HK.out; omega⟩
        have hk1 : (k : Int) < (np : Int) := by omega
        have hk2 : (k : Int) < 1001 := by have := HNP.out; omega
        have hAe := HAA.out (by omega)
        subst hAe
        obtain ⟨s, hs⟩ : ∃ s, ps[k]? = some s := ⟨ps[k]'(by have := HNP.out; omega), List.getElem?_eq_getElem _⟩
        have HS := Aside0.mk hs
        have HMS := Aside0.mk (List.mem_of_getElem? hs)
        have hs40 : s.size = 40 := HPS40.out s HMS.out
        have HRG := Aside0.mk (HC.out.par (by omega) (HPC.out k s hs))
        have HNEW : Aside0 ((wr.alloc (.cells #[.int .u8 0, .int .u8 0, .int .u8 0, .int .u8 0, .int .u8 0, .int .u8 0, .int .u8 0, .int .u8 0, .int .u8 0, .int .u8 0, .int .u8 0, .int .u8 0, .int .u8 0, .int .u8 0, .int .u8 0, .int .u8 0, .int .u8 0, .int .u8 0, .int .u8 0, .int .u8 0] 51)).heap[wr.heap.size]? = some (.cells #[.int .u8 0, .int .u8 0, .int .u8 0, .int .u8 0, .int .u8 0, .int .u8 0, .int .u8 0, .int .u8 0, .int .u8 0, .int .u8 0, .int .u8 0, .int .u8 0, .int .u8 0, .int .u8 0, .int .u8 0, .int .u8 0, .int .u8 0, .int .u8 0, .int .u8 0, .int .u8 0] 51 (0, 0))) := ⟨blk_new _ _⟩
        have HWK : Aside0 (wrap64 ((k : Int) + 1) = ((k + 1 : Nat) : Int)) := ⟨by unfold wrap64; omega⟩
        clear hs
        go_upto_region 12 with (first
          | ((with_reducible refine gate_dst (N := 50) rfl ?_); refine wpList_load_mid rfl 51 (.tmp 49) rfl pb (k * 20) ?hx [.int .u8 (hb s 0), .int .u8 (hb s 1), .int .u8 (hb s 2), .int .u8 (hb s 3), .int .u8 (hb s 4), .int .u8 (hb s 5), .int .u8 (hb s 6), .int .u8 (hb s 7), .int .u8 (hb s 8), .int .u8 (hb s 9), .int .u8 (hb s 10), .int .u8 (hb s 11), .int .u8 (hb s 12), .int .u8 (hb s 13), .int .u8 (hb s 14), .int .u8 (hb s 15), .int .u8 (hb s 16), .int .u8 (hb s 17), .int .u8 (hb s 18), .int .u8 (hb s 19)] _ HRG.out Tryd.underlying51 rfl info41 ?_
             case hx => first | rfl | (simp [Act.eval]; done) | (go_simp; done))
          | ((with_reducible refine gate_store (p := 9) rfl ?_); refine wpList_put_row rfl 51 9 (.tmp 50) rfl rfl wr.heap.size 51 #[.int .u8 0, .int .u8 0, .int .u8 0, .int .u8 0, .int .u8 0, .int .u8 0, .int .u8 0, .int .u8 0, .int .u8 0, .int .u8 0, .int .u8 0, .int .u8 0, .int .u8 0, .int .u8 0, .int .u8 0, .int .u8 0, .int .u8 0, .int .u8 0, .int .u8 0, .int .u8 0] #[.int .u8 (hb s 0), .int .u8 (hb s 1), .int .u8 (hb s 2), .int .u8 (hb s 3), .int .u8 (hb s 4), .int .u8 (hb s 5), .int .u8 (hb s 6), .int .u8 (hb s 7), .int .u8 (hb s 8), .int .u8 (hb s 9), .int .u8 (hb s 10), .int .u8 (hb s 11), .int .u8 (hb s 12), .int .u8 (hb s 13), .int .u8 (hb s 14), .int .u8 (hb s 15), .int .u8 (hb s 16), .int .u8 (hb s 17), .int .u8 (hb s 18), .int .u8 (hb s 19)] rfl rfl HNEW.out rfl info41 (hcells_one (hb s)) ?_)
          | fail)
        rw [setRow_new]
        have HRG2 : Aside0 ((wr.alloc (.cells #[.int .u8 (hb s 0), .int .u8 (hb s 1), .int .u8 (hb s 2), .int .u8 (hb s 3), .int .u8 (hb s 4), .int .u8 (hb s 5), .int .u8 (hb s 6), .int .u8 (hb s 7), .int .u8 (hb s 8), .int .u8 (hb s 9), .int .u8 (hb s 10), .int .u8 (hb s 11), .int .u8 (hb s 12), .int .u8 (hb s 13), .int .u8 (hb s 14), .int .u8 (hb s 15), .int .u8 (hb s 16), .int .u8 (hb s 17), .int .u8 (hb s 18), .int .u8 (hb s 19)] 51)).rangeAt wr.heap.size 0 [.int .u8 (hb s 0), .int .u8 (hb s 1), .int .u8 (hb s 2), .int .u8 (hb s 3), .int .u8 (hb s 4), .int .u8 (hb s 5), .int .u8 (hb s 6), .int .u8 (hb s 7), .int .u8 (hb s 8), .int .u8 (hb s 9), .int .u8 (hb s 10), .int .u8 (hb s 11), .int .u8 (hb s 12), .int .u8 (hb s 13), .int .u8 (hb s 14), .int .u8 (hb s 15), .int .u8 (hb s 16), .int .u8 (hb s 17), .int .u8 (hb s 18), .int .u8 (hb s 19)]) := ⟨new_range wr (hb s)⟩
        have HC2 : Aside0 (Ca w0 (wr.alloc (.cells #[.int .u8 (hb s 0), .int .u8 (hb s 1), .int .u8 (hb s 2), .int .u8 (hb s 3), .int .u8 (hb s 4), .int .u8 (hb s 5), .int .u8 (hb s 6), .int .u8 (hb s 7), .int .u8 (hb s 8), .int .u8 (hb s 9), .int .u8 (hb s 10), .int .u8 (hb s 11), .int .u8 (hb s 12), .int .u8 (hb s 13), .int .u8 (hb s 14), .int .u8 (hb s 15), .int .u8 (hb s 16), .int .u8 (hb s 17), .int .u8 (hb s 18), .int .u8 (hb s 19)] 51)) o E g tv an ae asec ansec az cn ce csec cnsec cz pgp msg PV enc pb pcs np ([] ++ nums (cTree ++ th ++ tNl) ++ parOut (ps.take k))) := ⟨HC.out.below (below_alloc (Below.refl _ _) _)⟩
        generalize wr.alloc (.cells #[.int .u8 (hb s 0), .int .u8 (hb s 1), .int .u8 (hb s 2), .int .u8 (hb s 3), .int .u8 (hb s 4), .int .u8 (hb s 5), .int .u8 (hb s 6), .int .u8 (hb s 7), .int .u8 (hb s 8), .int .u8 (hb s 9), .int .u8 (hb s 10), .int .u8 (hb s 11), .int .u8 (hb s 12), .int .u8 (hb s 13), .int .u8 (hb s 14), .int .u8 (hb s 15), .int .u8 (hb s 16), .int .u8 (hb s 17), .int .u8 (hb s 18), .int .u8 (hb s 19)] 51) = wn at HRG2 HC2 ⊢
        generalize wr.heap.size = gn at HRG2 ⊢
        clear HRG HNEW HC
        go_wp2_with (first
          | ((with_reducible refine gate_dst (N := 53) rfl ?_); refine wpList_load_mid rfl 51 (.tmp 9) rfl gn 0 ?hx [.int .u8 (hb s 0), .int .u8 (hb s 1), .int .u8 (hb s 2), .int .u8 (hb s 3), .int .u8 (hb s 4), .int .u8 (hb s 5), .int .u8 (hb s 6), .int .u8 (hb s 7), .int .u8 (hb s 8), .int .u8 (hb s 9), .int .u8 (hb s 10), .int .u8 (hb s 11), .int .u8 (hb s 12), .int .u8 (hb s 13), .int .u8 (hb s 14), .int .u8 (hb s 15), .int .u8 (hb s 16), .int .u8 (hb s 17), .int .u8 (hb s 18), .int .u8 (hb s 19)] _ HRG2.out Tryd.underlying51 rfl info41 ?_
             case hx => first | rfl | (simp [Act.eval]; done) | (go_simp; done))
          | (go_at_call 64
             (with_reducible refine (PH2.out s _ _ HMS.out HC2.out).mono ?_)
             rintro x wc ⟨rfl, k3⟩
             have T3 := Aside0.mk k3
             obtain ⟨e0, e1, e2⟩ := k3.res
             clear k3)
          | (go_at_call 48
             (with_reducible refine (PP.out k s _ HS.out T3.out).mono ?_)
             rintro x wd ⟨n1, rfl, k4⟩
             have T4 := Aside0.mk k4
             obtain ⟨e0, e1, e2⟩ := k4.res
             clear k4)
          | fail)
        go_roundg m
        case measure => omega
        case rel => exact ⟨k + 1, by first | rfl | rw [HWK.out], ⟨by have := HK.out; omega⟩, T4⟩
      · have hke : k = np := by have := HK.out; omega
        subst hke
        have T2 : Aside0 (Ca w0 wr o E g tv an ae asec ansec az cn ce csec cnsec cz pgp msg PV enc pb pcs k ([] ++ nums (cTree ++ th ++ tNl) ++ parOut ps)) := ⟨by
          have := HC.out
          rwa [HNP.out.1, List.take_length, ← HNP.out.1] at this⟩
        obtain ⟨e0, e1, e2⟩ := T2.out.res
        clear HC HK PH2 PP
        go_wp2_with (first
          | (go_at_call 48
             (with_reducible refine (PA.out _ T2.out).mono ?_)
             rintro x wTA ⟨n5, rfl, k9⟩
             have TA := Aside0.mk k9
             obtain ⟨e0, e1, e2⟩ := k9.res
             obtain ⟨c30, c31, c32, -, c54, c55⟩ := k9.cells
             clear k9 PA)
          | (go_at_call 67
             (with_reducible refine (PA2.out _ TA.out).mono ?_)
             rintro x wTA2 ⟨rfl, k9⟩
             have TA2 := Aside0.mk k9
             obtain ⟨e0, e1, e2⟩ := k9.res
             obtain ⟨c30, c31, c32, -, c54, c55⟩ := k9.cells
             clear k9 PA2)
          | (go_at_call 48
             (with_reducible refine (PC.out _ TA2.out).mono ?_)
             rintro x wTC ⟨n7, rfl, k9⟩
             have TC := Aside0.mk k9
             obtain ⟨e0, e1, e2⟩ := k9.res
             obtain ⟨c30, c31, c32, -, c54, c55⟩ := k9.cells
             clear k9 PC)
          | (go_at_call 67
             (with_reducible refine (PC2.out _ TC.out).mono ?_)
             rintro x wTC2 ⟨rfl, k9⟩
             have TC2 := Aside0.mk k9
             obtain ⟨e0, e1, e2⟩ := k9.res
             obtain ⟨c30, c31, c32, -, c54, c55⟩ := k9.cells
             clear k9 PC2)
          | fail)
        go_loopg [156] 0 (fun gk v156 w' => v156 = .int .i64 0 ∧ Aside0 (Ca w0 w' o E g tv an ae asec ansec az cn ce csec cnsec cz pgp msg PV enc pb pcs k ([] ++ nums (cTree ++ th ++ tNl) ++ parOut ps ++ nums cAuth ++ nums (who an ae asec az) ++ nums cComm ++ nums (who cn ce csec cz))))
        case atStart => exact ⟨rfl, TC2⟩
        case round =>
          obtain ⟨rfl, HC⟩ := hrel
          obtain ⟨e0, e1, e2⟩ := HC.out.res
          obtain ⟨-, c31, c32, -, -, -⟩ := HC.out.cells
          go_wp2_with (first
            | (go_at_call 48
               (with_reducible refine (PM.out _ HC.out).mono ?_)
               rintro x wTM ⟨n9, rfl, k9⟩
               have TM := Aside0.mk k9
               obtain ⟨e0, e1, e2⟩ := k9.res
               obtain ⟨c30, c31, c32, -, c54, c55⟩ := k9.cells
               clear k9 PM)
            | fail)
          refine leaves_cons (f := 44) (args := #[.iface 57 (.pointer (some ⟨o, 0, none⟩)), .pointer (some ⟨E, 0, none⟩)]) (by simp) (enters_of Tryd.func44 (by kernel_rfl) rfl _ _) ?_
          refine (checkClose o ⟨E, 0, none⟩ _ _).mono ?_
          rintro e u' wz ⟨rfl, rfl, rfl⟩
          refine ⟨.nilIface, ?_, rfl, TM.out.mo⟩
          rw [results_cell1 (p := 6) (ty := 63) rfl]
          show (Result.ok (⟨E, 0, none⟩ : Addr) _).andThen _ = _
          exact load63 TM.out.res.1


set_option maxHeartbeats 16000000 in
set_option maxRecDepth 100000 in
theorem commitSigned {w0 W : World} {o g : Nat} {tv : Nat → Int} {an ae : ByteArray} {asec ansec az : Int} {cn ce : ByteArray} {csec cnsec cz : Int} {pgp msg : ByteArray} {PV : Value} {enc : ByteArray} {pb : Nat} {pcs : Array Value} {np : Nat} {th : ByteArray} {ps : List ByteArray} {tr J : ByteArray} {lines : List ByteArray} {K : Nat} {cp : Nat} {A : Option Addr} (h : Mo w0 W o 0 []) (ht : W.heap[g]? = some (.cells (ccells tv an ae asec ansec az cn ce csec cnsec cz pgp msg PV enc) 89 (0, 0))) (hgo : g ≠ o) (hp : 0 < np → W.heap[pb]? = some (.cells pcs 51 (0, 0))) (hpo : 0 < np → pb ≠ o)
    (hPV : PV = .slice A np cp) (hA : 0 < np → A = some ⟨pb, 0, none⟩) (hnp : np = ps.length) (hn1 : ps.length ≤ 1000) (hpc : ∀ (k : Nat) (s : ByteArray), ps[k]? = some s → ∀ j, j < 20 → pcs[k * 20 + j]? = some (.int .u8 (hb s j)))
    (hth : th = hexOf tv) (htr : ∀ i, i < 20 → 0 ≤ tv i ∧ tv i < 256) (hth40 : th.size = 40) (hps : ∀ s ∈ ps, s.size = 40 ∧ s = hexOf (hb s) ∧ ∀ i, i < 20 → 0 ≤ hb s i ∧ hb s i < 256)
    (ha0 : 62135596800 ≤ asec) (ha1 : asec ≤ 10000000000000) (haz : az.tmod 60 = 0) (haz0 : -360000 < az) (haz1 : az < 360000)
    (hc0 : 62135596800 ≤ csec) (hc1 : csec ≤ 10000000000000) (hcz : cz.tmod 60 = 0) (hcz0 : -360000 < cz) (hcz1 : cz < 360000)
    (hwa : (who an ae asec az).size ≤ 10000) (hwc : (who cn ce csec cz).size ≤ 10000) (hmsg : msg.size ≤ 1000000) (henc : enc = ⟨#[]⟩ ∨ enc = ⟨#[85, 84, 70, 45, 56]⟩) (hq : ¬ pgp = ⟨#[]⟩) (htrim : strings_TrimSuffix.f pgp ⟨#[10]⟩ = some tr) (hsplit : object_zzSplit.f K tr ⟨#[10]⟩ = some lines) (hJ : J = ⟨(Lib.join (lines.map (·.data.toList)) [10, 32]).toArray⟩) (hJl : J.size ≤ 1000000) (hln : lines.length ≤ 1000000)
    (htab : ∀ W1, Below w0.heap.size w0 W1 → Lib.TabIs Tryd.prog W1 "internal/strconv.uint64pow10" .u64 Lib.pow10Tab) :
    Calls Tryd.prog 59 #[.pointer (some ⟨g, 0, none⟩), .iface 57 (.pointer (some ⟨o, 0, none⟩)), .bool true] W fun e w' => e = .returned .nilIface ∧ Mo w0 w' o 1 ([] ++ nums (cTree ++ th ++ tNl) ++ parOut ps ++ nums cAuth ++ nums (who an ae asec az) ++ nums cComm ++ nums (who cn ce csec cz) ++ nums cSig ++ nums J ++ nums (cNl2 ++ msg)) := by
  have l1 : cTree.size = 5 := rfl
  have l2 : cPar.size = 7 := rfl
  have l3 : cAuth.size = 7 := rfl
  have l4 : cComm.size = 11 := rfl
  have l5 : cSig.size = 8 := rfl
  have l6 : cNl2.size = 2 := rfl
  have l7 : tNl.size = 1 := rfl
  have hps40 : ∀ s ∈ ps, s.size = 40 := fun s hs => (hps s hs).1
  generalize hE : W.heap.size = E
  have hoE : E ≠ o := by have := h.lt; omega
  have hTA0 : ∀ W', Mo w0 W' o 1 [] → Kp o (W.alloc (.cells #[.nilIface] 63 (0, 0))) W' → Ca w0 W' o E g tv an ae asec ansec az cn ce csec cnsec cz pgp msg PV enc pb pcs np ([]) := fun W' hm hk =>
    ⟨hm, hk.2 E _ _ hoE (by decide) (by rw [← hE]; exact blk_new W _), hk.2 g _ _ hgo (by decide) ((Below.heap_alloc W _ g (blk_lt ht)).trans ht), fun z => hk.2 pb _ _ (hpo z) (by decide) ((Below.heap_alloc W _ pb (blk_lt (hp z))).trans (hp z))⟩
  have P1 : Aside0 (∀ W1, Ca w0 W1 o E g tv an ae asec ansec az cn ce csec cnsec cz pgp msg PV enc pb pcs np ([]) → Calls Tryd.prog 48 #[.iface 57 (.pointer (some ⟨o, 0, none⟩)), .string ((⟨#[116, 114, 101, 101, 32]⟩ : ByteArray) ++ th ++ (⟨#[10]⟩ : ByteArray))] W1 fun e w' => ∃ n, e = .returned (.tuple #[.int .i64 n, .nilIface]) ∧ Ca w0 w' o E g tv an ae asec ansec az cn ce csec cnsec cz pgp msg PV enc pb pcs np ([] ++ nums (cTree ++ th ++ tNl))) :=
    ⟨fun W1 h => by have q := h.put hoE hgo hpo (cTree ++ th ++ tNl) (by simp only [List.length_append, nums_len, List.length_nil, ByteArray.size_append, parOut_len ps hps40, l1, l2, l3, l4, l5, l6, l7]; omega); exact q⟩
  have PP : Aside0 (∀ (k : Nat) (s : ByteArray) W1, ps[k]? = some s → Ca w0 W1 o E g tv an ae asec ansec az cn ce csec cnsec cz pgp msg PV enc pb pcs np ([] ++ nums (cTree ++ th ++ tNl) ++ parOut (ps.take k)) → Calls Tryd.prog 48 #[.iface 57 (.pointer (some ⟨o, 0, none⟩)), .string ((⟨#[112, 97, 114, 101, 110, 116, 32]⟩ : ByteArray) ++ s ++ (⟨#[10]⟩ : ByteArray))] W1 fun e w' => ∃ n, e = .returned (.tuple #[.int .i64 n, .nilIface]) ∧ Ca w0 w' o E g tv an ae asec ansec az cn ce csec cnsec cz pgp msg PV enc pb pcs np ([] ++ nums (cTree ++ th ++ tNl) ++ parOut (ps.take (k + 1)))) :=
    ⟨fun k s W1 hk h => by
      have hkl := (List.getElem?_eq_some_iff.1 hk).1
      have e1 : ps.take (k + 1) = ps.take k ++ [s] := by rw [List.take_succ_eq_append_getElem hkl, (List.getElem?_eq_some_iff.1 hk).2]
      have q := h.put hoE hgo hpo (cPar ++ s ++ tNl) (by simp only [List.length_append, nums_len, List.length_nil, ByteArray.size_append, parOut_len (ps.take k) (fun s hs => hps40 s (List.mem_of_mem_take hs)), List.length_take, hps40 s (List.mem_of_getElem? hk), l1, l2, l3, l4, l5, l6, l7]; omega)
      rw [e1, parOut_snoc, ← List.append_assoc]
      exact q⟩
  have PA : Aside0 (∀ W1, Ca w0 W1 o E g tv an ae asec ansec az cn ce csec cnsec cz pgp msg PV enc pb pcs np ([] ++ nums (cTree ++ th ++ tNl) ++ parOut ps) → Calls Tryd.prog 48 #[.iface 57 (.pointer (some ⟨o, 0, none⟩)), .string ((⟨#[97, 117, 116, 104, 111, 114, 32]⟩ : ByteArray))] W1 fun e w' => ∃ n, e = .returned (.tuple #[.int .i64 n, .nilIface]) ∧ Ca w0 w' o E g tv an ae asec ansec az cn ce csec cnsec cz pgp msg PV enc pb pcs np ([] ++ nums (cTree ++ th ++ tNl) ++ parOut ps ++ nums cAuth)) :=
    ⟨fun W1 h => by have q := h.put hoE hgo hpo (cAuth) (by simp only [List.length_append, nums_len, List.length_nil, ByteArray.size_append, parOut_len ps hps40, l1, l2, l3, l4, l5, l6, l7]; omega); exact q⟩
  have PC : Aside0 (∀ W1, Ca w0 W1 o E g tv an ae asec ansec az cn ce csec cnsec cz pgp msg PV enc pb pcs np ([] ++ nums (cTree ++ th ++ tNl) ++ parOut ps ++ nums cAuth ++ nums (who an ae asec az)) → Calls Tryd.prog 48 #[.iface 57 (.pointer (some ⟨o, 0, none⟩)), .string ((⟨#[10, 99, 111, 109, 109, 105, 116, 116, 101, 114, 32]⟩ : ByteArray))] W1 fun e w' => ∃ n, e = .returned (.tuple #[.int .i64 n, .nilIface]) ∧ Ca w0 w' o E g tv an ae asec ansec az cn ce csec cnsec cz pgp msg PV enc pb pcs np ([] ++ nums (cTree ++ th ++ tNl) ++ parOut ps ++ nums cAuth ++ nums (who an ae asec az) ++ nums cComm)) :=
    ⟨fun W1 h => by have q := h.put hoE hgo hpo (cComm) (by simp only [List.length_append, nums_len, List.length_nil, ByteArray.size_append, parOut_len ps hps40, l1, l2, l3, l4, l5, l6, l7]; omega); exact q⟩
  have PA2 : Aside0 (∀ W1, Ca w0 W1 o E g tv an ae asec ansec az cn ce csec cnsec cz pgp msg PV enc pb pcs np ([] ++ nums (cTree ++ th ++ tNl) ++ parOut ps ++ nums cAuth) → Calls Tryd.prog 67 #[.pointer (some ⟨g, 20, none⟩), .iface 57 (.pointer (some ⟨o, 0, none⟩))] W1 fun e w' => e = .returned .nilIface ∧ Ca w0 w' o E g tv an ae asec ansec az cn ce csec cnsec cz pgp msg PV enc pb pcs np ([] ++ nums (cTree ++ th ++ tNl) ++ parOut ps ++ nums cAuth ++ nums (who an ae asec az))) :=
    ⟨fun W1 h => (encodeWho h.mo h.t hgo (by decide) ⟨(Lib.cell_of_heap h.t 20).trans rfl, (Lib.cell_of_heap h.t 21).trans rfl, (Lib.cell_of_heap h.t 22).trans rfl, (Lib.cell_of_heap h.t 23).trans rfl, (Lib.cell_of_heap h.t 24).trans rfl⟩ ha0 ha1 haz haz0 haz1 (by simp only [List.length_append, nums_len, List.length_nil, ByteArray.size_append, parOut_len ps hps40, l1, l2, l3, l4, l5, l6, l7]; omega) htab).mono (by
      rintro e w' ⟨rfl, k1, k2⟩
      exact ⟨rfl, h.kp k1 k2 hoE hgo hpo⟩)⟩
  have PC2 : Aside0 (∀ W1, Ca w0 W1 o E g tv an ae asec ansec az cn ce csec cnsec cz pgp msg PV enc pb pcs np ([] ++ nums (cTree ++ th ++ tNl) ++ parOut ps ++ nums cAuth ++ nums (who an ae asec az) ++ nums cComm) → Calls Tryd.prog 67 #[.pointer (some ⟨g, 25, none⟩), .iface 57 (.pointer (some ⟨o, 0, none⟩))] W1 fun e w' => e = .returned .nilIface ∧ Ca w0 w' o E g tv an ae asec ansec az cn ce csec cnsec cz pgp msg PV enc pb pcs np ([] ++ nums (cTree ++ th ++ tNl) ++ parOut ps ++ nums cAuth ++ nums (who an ae asec az) ++ nums cComm ++ nums (who cn ce csec cz))) :=
    ⟨fun W1 h => (encodeWho h.mo h.t hgo (by decide) ⟨(Lib.cell_of_heap h.t 25).trans rfl, (Lib.cell_of_heap h.t 26).trans rfl, (Lib.cell_of_heap h.t 27).trans rfl, (Lib.cell_of_heap h.t 28).trans rfl, (Lib.cell_of_heap h.t 29).trans rfl⟩ hc0 hc1 hcz hcz0 hcz1 (by simp only [List.length_append, nums_len, List.length_nil, ByteArray.size_append, parOut_len ps hps40, l1, l2, l3, l4, l5, l6, l7]; omega) htab).mono (by
      rintro e w' ⟨rfl, k1, k2⟩
      exact ⟨rfl, h.kp k1 k2 hoE hgo hpo⟩)⟩
  have PS : Aside0 (∀ W1, Ca w0 W1 o E g tv an ae asec ansec az cn ce csec cnsec cz pgp msg PV enc pb pcs np ([] ++ nums (cTree ++ th ++ tNl) ++ parOut ps ++ nums cAuth ++ nums (who an ae asec az) ++ nums cComm ++ nums (who cn ce csec cz)) → Calls Tryd.prog 48 #[.iface 57 (.pointer (some ⟨o, 0, none⟩)), .string ((⟨#[10, 103, 112, 103, 115, 105, 103, 32]⟩ : ByteArray))] W1 fun e w' => ∃ n, e = .returned (.tuple #[.int .i64 n, .nilIface]) ∧ Ca w0 w' o E g tv an ae asec ansec az cn ce csec cnsec cz pgp msg PV enc pb pcs np ([] ++ nums (cTree ++ th ++ tNl) ++ parOut ps ++ nums cAuth ++ nums (who an ae asec az) ++ nums cComm ++ nums (who cn ce csec cz) ++ nums cSig)) :=
    ⟨fun W1 h => by have q := h.put hoE hgo hpo (cSig) (by simp only [List.length_append, nums_len, List.length_nil, ByteArray.size_append, parOut_len ps hps40, l1, l2, l3, l4, l5, l6, l7]; omega); exact q⟩
  have PJ : Aside0 (∀ W1, Ca w0 W1 o E g tv an ae asec ansec az cn ce csec cnsec cz pgp msg PV enc pb pcs np ([] ++ nums (cTree ++ th ++ tNl) ++ parOut ps ++ nums cAuth ++ nums (who an ae asec az) ++ nums cComm ++ nums (who cn ce csec cz) ++ nums cSig) → Calls Tryd.prog 48 #[.iface 57 (.pointer (some ⟨o, 0, none⟩)), .string (J)] W1 fun e w' => ∃ n, e = .returned (.tuple #[.int .i64 n, .nilIface]) ∧ Ca w0 w' o E g tv an ae asec ansec az cn ce csec cnsec cz pgp msg PV enc pb pcs np ([] ++ nums (cTree ++ th ++ tNl) ++ parOut ps ++ nums cAuth ++ nums (who an ae asec az) ++ nums cComm ++ nums (who cn ce csec cz) ++ nums cSig ++ nums J)) :=
    ⟨fun W1 h => by have q := h.put hoE hgo hpo (J) (by simp only [List.length_append, nums_len, List.length_nil, ByteArray.size_append, parOut_len ps hps40, l1, l2, l3, l4, l5, l6, l7]; omega); exact q⟩
  have PM : Aside0 (∀ W1, Ca w0 W1 o E g tv an ae asec ansec az cn ce csec cnsec cz pgp msg PV enc pb pcs np ([] ++ nums (cTree ++ th ++ tNl) ++ parOut ps ++ nums cAuth ++ nums (who an ae asec az) ++ nums cComm ++ nums (who cn ce csec cz) ++ nums cSig ++ nums J) → Calls Tryd.prog 48 #[.iface 57 (.pointer (some ⟨o, 0, none⟩)), .string ((⟨#[10, 10]⟩ : ByteArray) ++ msg)] W1 fun e w' => ∃ n, e = .returned (.tuple #[.int .i64 n, .nilIface]) ∧ Ca w0 w' o E g tv an ae asec ansec az cn ce csec cnsec cz pgp msg PV enc pb pcs np ([] ++ nums (cTree ++ th ++ tNl) ++ parOut ps ++ nums cAuth ++ nums (who an ae asec az) ++ nums cComm ++ nums (who cn ce csec cz) ++ nums cSig ++ nums J ++ nums (cNl2 ++ msg))) :=
    ⟨fun W1 h => by have q := h.put hoE hgo hpo (cNl2 ++ msg) (by simp only [List.length_append, nums_len, List.length_nil, ByteArray.size_append, parOut_len ps hps40, l1, l2, l3, l4, l5, l6, l7]; omega); exact q⟩
  have PT : Aside0 (∀ W1, Ca w0 W1 o E g tv an ae asec ansec az cn ce csec cnsec cz pgp msg PV enc pb pcs np ([] ++ nums (cTree ++ th ++ tNl) ++ parOut ps ++ nums cAuth ++ nums (who an ae asec az) ++ nums cComm ++ nums (who cn ce csec cz) ++ nums cSig) → Calls Tryd.prog 69 #[.string pgp, .string ⟨#[10]⟩] W1 fun e w' => e = .returned (.string tr) ∧ Ca w0 w' o E g tv an ae asec ansec az cn ce csec cnsec cz pgp msg PV enc pb pcs np ([] ++ nums (cTree ++ th ++ tNl) ++ parOut ps ++ nums cAuth ++ nums (who an ae asec az) ++ nums cComm ++ nums (who cn ce csec cz) ++ nums cSig)) :=
    ⟨fun W1 h => (strings_TrimSuffix.calls pgp ⟨#[10]⟩ tr W1 htrim).mono (by
      rintro e w' ⟨rfl, k⟩
      exact ⟨rfl, h.below k.below⟩)⟩
  have PZ : Aside0 (∀ W1, Ca w0 W1 o E g tv an ae asec ansec az cn ce csec cnsec cz pgp msg PV enc pb pcs np ([] ++ nums (cTree ++ th ++ tNl) ++ parOut ps ++ nums cAuth ++ nums (who an ae asec az) ++ nums cComm ++ nums (who cn ce csec cz) ++ nums cSig) → Calls Tryd.prog 70 #[.string tr, .string ⟨#[10]⟩] W1 fun e w' => ∃ v, e = .returned v ∧ Kd.R Kd.string 9 w' W1.heap.size (fun _ => True) v lines ∧ Ca w0 w' o E g tv an ae asec ansec az cn ce csec cnsec cz pgp msg PV enc pb pcs np ([] ++ nums (cTree ++ th ++ tNl) ++ parOut ps ++ nums cAuth ++ nums (who an ae asec az) ++ nums cComm ++ nums (who cn ce csec cz) ++ nums cSig)) :=
    ⟨fun W1 h => (object_zzSplit.calls K tr ⟨#[10]⟩ lines W1 hsplit).mono (by
      rintro e w' ⟨v, rfl, k1, k2⟩
      exact ⟨v, rfl, k1, h.below k2⟩)⟩
  have PJN : Aside0 (∀ W1 b v, Kd.R Kd.string 9 W1 b (fun _ => True) v lines → Ca w0 W1 o E g tv an ae asec ansec az cn ce csec cnsec cz pgp msg PV enc pb pcs np ([] ++ nums (cTree ++ th ++ tNl) ++ parOut ps ++ nums cAuth ++ nums (who an ae asec az) ++ nums cComm ++ nums (who cn ce csec cz) ++ nums cSig) → Calls Tryd.prog 71 #[v, .string ⟨#[10, 32]⟩] W1 fun e w' => e = .returned (.string J) ∧ Ca w0 w' o E g tv an ae asec ansec az cn ce csec cnsec cz pgp msg PV enc pb pcs np ([] ++ nums (cTree ++ th ++ tNl) ++ parOut ps ++ nums cAuth ++ nums (who an ae asec az) ++ nums cComm ++ nums (who cn ce csec cz) ++ nums cSig)) :=
    ⟨fun W1 b v hR h => (joinC lines J hJ hJl hln W1 b v hR).mono (by
      rintro e w' ⟨rfl, k⟩
      exact ⟨rfl, h.below k⟩)⟩
  have PH : Aside0 (∀ W1 l, Ca w0 W1 o E g tv an ae asec ansec az cn ce csec cnsec cz pgp msg PV enc pb pcs np (l) → Calls Tryd.prog 64 #[.agg #[.int .u8 (tv 0), .int .u8 (tv 1), .int .u8 (tv 2), .int .u8 (tv 3), .int .u8 (tv 4), .int .u8 (tv 5), .int .u8 (tv 6), .int .u8 (tv 7), .int .u8 (tv 8), .int .u8 (tv 9), .int .u8 (tv 10), .int .u8 (tv 11), .int .u8 (tv 12), .int .u8 (tv 13), .int .u8 (tv 14), .int .u8 (tv 15), .int .u8 (tv 16), .int .u8 (tv 17), .int .u8 (tv 18), .int .u8 (tv 19)]] W1 fun e w' => e = .returned (.string th) ∧ Ca w0 w' o E g tv an ae asec ansec az cn ce csec cnsec cz pgp msg PV enc pb pcs np (l)) :=
    ⟨fun W1 l h => (hashString tv th hth htr W1).mono (by
      rintro e w' ⟨rfl, k⟩
      exact ⟨rfl, h.below k⟩)⟩
  have PH2 : Aside0 (∀ (s : ByteArray) W1 l, s ∈ ps → Ca w0 W1 o E g tv an ae asec ansec az cn ce csec cnsec cz pgp msg PV enc pb pcs np (l) → Calls Tryd.prog 64 #[.agg #[.int .u8 (hb s 0), .int .u8 (hb s 1), .int .u8 (hb s 2), .int .u8 (hb s 3), .int .u8 (hb s 4), .int .u8 (hb s 5), .int .u8 (hb s 6), .int .u8 (hb s 7), .int .u8 (hb s 8), .int .u8 (hb s 9), .int .u8 (hb s 10), .int .u8 (hb s 11), .int .u8 (hb s 12), .int .u8 (hb s 13), .int .u8 (hb s 14), .int .u8 (hb s 15), .int .u8 (hb s 16), .int .u8 (hb s 17), .int .u8 (hb s 18), .int .u8 (hb s 19)]] W1 fun e w' => e = .returned (.string s) ∧ Ca w0 w' o E g tv an ae asec ansec az cn ce csec cnsec cz pgp msg PV enc pb pcs np (l)) :=
    ⟨fun s W1 l hs h => (hashString (hb s) s (hps s hs).2.1 (hps s hs).2.2 W1).mono (by
      rintro e w' ⟨rfl, k⟩
      exact ⟨rfl, h.below k⟩)⟩
  have hB0 := Below.alloc (Below.refl W.heap.size W) (Nat.le_refl _) (.cells #[.nilIface] 63 (0, 0))
  have PSE : Aside0 (Calls Tryd.prog 129 #[.pointer (some ⟨o, 0, none⟩), .int .i8 1] (W.alloc (.cells #[.nilIface] 63 (0, 0))) fun e w' => e = .returned (.tuple #[]) ∧ Ca w0 w' o E g tv an ae asec ansec az cn ce csec cnsec cz pgp msg PV enc pb pcs np ([])) :=
    ⟨(setType (h.below hB0) 1).mono (by
      rintro e w' ⟨rfl, k1, k2⟩
      exact ⟨rfl, hTA0 w' k1 k2⟩)⟩
  have PW : Aside0 (∀ W1, Ca w0 W1 o E g tv an ae asec ansec az cn ce csec cnsec cz pgp msg PV enc pb pcs np ([]) → Calls Tryd.prog 131 #[.pointer (some ⟨o, 0, none⟩)] W1 fun e w' => e = .returned (.tuple #[.iface 57 (.pointer (some ⟨o, 0, none⟩)), .nilIface]) ∧ w' = W1) :=
    ⟨fun W1 h => writer o W1⟩
  have hmw := fun g W => mSetType 328/-FUEL-/ g W
  have hmv := fun g W => mWriter 328/-FUEL-/ g W
  have HPC := Aside0.mk hpc
  have HPS40 := Aside0.mk hps40
  have HAA := Aside0.mk hA
  have HNP := Aside0.mk (And.intro hnp hn1)
  have zm : 2 + msg.size ≤ 9223372036854775807 := by omega
  have HPV := Aside0.mk hPV
  have hqe : pgp.toList.isEmpty = false := by
    cases hx : pgp.toList.isEmpty with
    | false => rfl
    | true => exact absurd (Txt.ba_ext ((List.isEmpty_iff.1 hx).trans (Txt.toList_lit #[]).symm)) hq
  have hqe2 : ¬ pgp.toList = [] := fun hx => hq (Txt.ba_ext (hx.trans (Txt.toList_lit #[]).symm))
  clear hq
  clear hPV h ht hp hpo hA hnp hn1 hpc hth htr hps ha0 ha1 haz haz0 haz1 hc0 hc1 hcz hcz0 hcz1 hwa hwc hmsg htab hps40 hTA0 hB0 l1 l2 l3 l4 l5 l6 l7 htrim hsplit hJ hJl hln
  have hen : (enc.toList = [] ∧ enc.toList.isEmpty = true) ∨ (¬ enc.toList = [] ∧ enc.toList.isEmpty = false ∧ (enc.toList == [85, 84, 70, 45, 56]) = true) := by
    rcases henc with rfl | rfl
    · exact Or.inl ⟨Txt.toList_lit #[], by rw [Txt.toList_lit]; rfl⟩
    · exact Or.inr ⟨by rw [Txt.toList_lit]; decide, by rw [Txt.toList_lit]; decide, by rw [Txt.toList_lit]; decide⟩
  clear henc
  rcases hen with ⟨hen1, hen2⟩ | ⟨hen1, hen2, hen3⟩
  all_goals
    go_enter_defers Tryd.func59, Tryd.ntmps59
    go_upto_region 10 with (first
      | (go_at_call 129
         (with_reducible refine PSE.out.mono ?_)
         rintro x wa ⟨rfl, k⟩
         have T0 := Aside0.mk k
         obtain ⟨e0, e1, e2⟩ := k.res
         clear k)
      | (go_at_call 131
         (with_reducible refine (PW.out _ T0.out).mono ?_)
         rintro x wb ⟨rfl, rfl⟩)
      | ((with_reducible refine gate_dst (N := 32) rfl ?_); refine wpList_load_mid rfl 51 (.tmp 31) rfl g 33 ?hx [.int .u8 (tv 0), .int .u8 (tv 1), .int .u8 (tv 2), .int .u8 (tv 3), .int .u8 (tv 4), .int .u8 (tv 5), .int .u8 (tv 6), .int .u8 (tv 7), .int .u8 (tv 8), .int .u8 (tv 9), .int .u8 (tv 10), .int .u8 (tv 11), .int .u8 (tv 12), .int .u8 (tv 13), .int .u8 (tv 14), .int .u8 (tv 15), .int .u8 (tv 16), .int .u8 (tv 17), .int .u8 (tv 18), .int .u8 (tv 19)] _ T0.out.tree Tryd.underlying51 rfl info41 ?_
         case hx => first | rfl | (simp [Act.eval]; done) | (go_simp; done))
      | (go_at_call 64
         (with_reducible refine (PH.out _ _ T0.out).mono ?_)
         rintro x wc ⟨rfl, k⟩
         have T1 := Aside0.mk k
         obtain ⟨e0, e1, e2⟩ := k.res
         clear k)
      | (go_at_call 48
         (with_reducible refine (P1.out _ T1.out).mono ?_)
         rintro x wd ⟨n1, rfl, k⟩
         have T2 := Aside0.mk k
         obtain ⟨e0, e1, e2⟩ := k.res
         obtain ⟨c30, c31, c32, c53, c54, c55⟩ := k.cells
         rw [HPV.out] at c53
         clear k)
      | fail)
    clear PSE PW PH P1 T0 T1 hmw hmv c30 c31 c32 c53 c54 c55
    go_loopg [47] np (fun gk v47 w' => ∃ k : Nat, v47 = .int .i64 (k : Int) ∧ Aside0 (k + gk = np) ∧ Aside0 (Ca w0 w' o E g tv an ae asec ansec az cn ce csec cnsec cz pgp msg PV enc pb pcs np ([] ++ nums (cTree ++ th ++ tNl) ++ parOut (ps.take k))))
    case atStart => exact ⟨0, rfl, ⟨by omega⟩, ⟨by rw [show parOut (ps.take 0) = [] from rfl, List.append_nil]; exact T2.out⟩⟩
    case round =>
      obtain ⟨k, rfl, HK, HC⟩ := hrel
      clear T2 e0 e1 e2
      by_cases hlt : k < np
      · obtain ⟨m, rfl⟩ : ∃ m, gk = m + 1 := ⟨gk - 1, by have := HK.out; omega⟩
        have hk1 : (k : Int) < (np : Int) := by omega
        have hk2 : (k : Int) < 1001 := by have := HNP.out; omega
        have hAe := HAA.out (by omega)
        subst hAe
        obtain ⟨s, hs⟩ : ∃ s, ps[k]? = some s := ⟨ps[k]'(by have := HNP.out; omega), List.getElem?_eq_getElem _⟩
        have HS := Aside0.mk hs
        have HMS := Aside0.mk (List.mem_of_getElem? hs)
        have hs40 : s.size = 40 := HPS40.out s HMS.out
        have HRG := Aside0.mk (HC.out.par (by omega) (HPC.out k s hs))
        have HNEW : Aside0 ((wr.alloc (.cells #[.int .u8 0, .int .u8 0, .int .u8 0, .int .u8 0, .int .u8 0, .int .u8 0, .int .u8 0, .int .u8 0, .int .u8 0, .int .u8 0, .int .u8 0, .int .u8 0, .int .u8 0, .int .u8 0, .int .u8 0, .int .u8 0, .int .u8 0, .int .u8 0, .int .u8 0, .int .u8 0] 51)).heap[wr.heap.size]? = some (.cells #[.int .u8 0, .int .u8 0, .int .u8 0, .int .u8 0, .int .u8 0, .int .u8 0, .int .u8 0, .int .u8 0, .int .u8 0, .int .u8 0, .int .u8 0, .int .u8 0, .int .u8 0, .int .u8 0, .int .u8 0, .int .u8 0, .int .u8 0, .int .u8 0, .int .u8 0, .int .u8 0] 51 (0, 0))) := ⟨blk_new _ _⟩
        have HWK : Aside0 (wrap64 ((k : Int) + 1) = ((k + 1 : Nat) : Int)) := ⟨by unfold wrap64; omega⟩
        clear hs
        go_upto_region 12 with (first
          | ((with_reducible refine gate_dst (N := 50) rfl ?_); refine wpList_load_mid rfl 51 (.tmp 49) rfl pb (k * 20) ?hx [.int .u8 (hb s 0), .int .u8 (hb s 1), .int .u8 (hb s 2), .int .u8 (hb s 3), .int .u8 (hb s 4), .int .u8 (hb s 5), .int .u8 (hb s 6), .int .u8 (hb s 7), .int .u8 (hb s 8), .int .u8 (hb s 9), .int .u8 (hb s 10), .int .u8 (hb s 11), .int .u8 (hb s 12), .int .u8 (hb s 13), .int .u8 (hb s 14), .int .u8 (hb s 15), .int .u8 (hb s 16), .int .u8 (hb s 17), .int .u8 (hb s 18), .int .u8 (hb s 19)] _ HRG.out Tryd.underlying51 rfl info41 ?_
             case hx => first | rfl | (simp [Act.eval]; done) | (go_simp; done))
          | ((with_reducible refine gate_store (p := 9) rfl ?_); refine wpList_put_row rfl 51 9 (.tmp 50) rfl rfl wr.heap.size 51 #[.int .u8 0, .int .u8 0, .int .u8 0, .int .u8 0, .int .u8 0, .int .u8 0, .int .u8 0, .int .u8 0, .int .u8 0, .int .u8 0, .int .u8 0, .int .u8 0, .int .u8 0, .int .u8 0, .int .u8 0, .int .u8 0, .int .u8 0, .int .u8 0, .int .u8 0, .int .u8 0] #[.int .u8 (hb s 0), .int .u8 (hb s 1), .int .u8 (hb s 2), .int .u8 (hb s 3), .int .u8 (hb s 4), .int .u8 (hb s 5), .int .u8 (hb s 6), .int .u8 (hb s 7), .int .u8 (hb s 8), .int .u8 (hb s 9), .int .u8 (hb s 10), .int .u8 (hb s 11), .int .u8 (hb s 12), .int .u8 (hb s 13), .int .u8 (hb s 14), .int .u8 (hb s 15), .int .u8 (hb s 16), .int .u8 (hb s 17), .int .u8 (hb s 18), .int .u8 (hb s 19)] rfl rfl HNEW.out rfl info41 (hcells_one (hb s)) ?_)
          | fail)
        rw [setRow_new]
        have HRG2 : Aside0 ((wr.alloc (.cells #[.int .u8 (hb s 0), .int .u8 (hb s 1), .int .u8 (hb s 2), .int .u8 (hb s 3), .int .u8 (hb s 4), .int .u8 (hb s 5), .int .u8 (hb s 6), .int .u8 (hb s 7), .int .u8 (hb s 8), .int .u8 (hb s 9), .int .u8 (hb s 10), .int .u8 (hb s 11), .int .u8 (hb s 12), .int .u8 (hb s 13), .int .u8 (hb s 14), .int .u8 (hb s 15), .int .u8 (hb s 16), .int .u8 (hb s 17), .int .u8 (hb s 18), .int .u8 (hb s 19)] 51)).rangeAt wr.heap.size 0 [.int .u8 (hb s 0), .int .u8 (hb s 1), .int .u8 (hb s 2), .int .u8 (hb s 3), .int .u8 (hb s 4), .int .u8 (hb s 5), .int .u8 (hb s 6), .int .u8 (hb s 7), .int .u8 (hb s 8), .int .u8 (hb s 9), .int .u8 (hb s 10), .int .u8 (hb s 11), .int .u8 (hb s 12), .int .u8 (hb s 13), .int .u8 (hb s 14), .int .u8 (hb s 15), .int .u8 (hb s 16), .int .u8 (hb s 17), .int .u8 (hb s 18), .int .u8 (hb s 19)]) := ⟨new_range wr (hb s)⟩
        have HC2 : Aside0 (Ca w0 (wr.alloc (.cells #[.int .u8 (hb s 0), .int .u8 (hb s 1), .int .u8 (hb s 2), .int .u8 (hb s 3), .int .u8 (hb s 4), .int .u8 (hb s 5), .int .u8 (hb s 6), .int .u8 (hb s 7), .int .u8 (hb s 8), .int .u8 (hb s 9), .int .u8 (hb s 10), .int .u8 (hb s 11), .int .u8 (hb s 12), .int .u8 (hb s 13), .int .u8 (hb s 14), .int .u8 (hb s 15), .int .u8 (hb s 16), .int .u8 (hb s 17), .int .u8 (hb s 18), .int .u8 (hb s 19)] 51)) o E g tv an ae asec ansec az cn ce csec cnsec cz pgp msg PV enc pb pcs np ([] ++ nums (cTree ++ th ++ tNl) ++ parOut (ps.take k))) := ⟨HC.out.below (below_alloc (Below.refl _ _) _)⟩
        generalize wr.alloc (.cells #[.int .u8 (hb s 0), .int .u8 (hb s 1), .int .u8 (hb s 2), .int .u8 (hb s 3), .int .u8 (hb s 4), .int .u8 (hb s 5), .int .u8 (hb s 6), .int .u8 (hb s 7), .int .u8 (hb s 8), .int .u8 (hb s 9), .int .u8 (hb s 10), .int .u8 (hb s 11), .int .u8 (hb s 12), .int .u8 (hb s 13), .int .u8 (hb s 14), .int .u8 (hb s 15), .int .u8 (hb s 16), .int .u8 (hb s 17), .int .u8 (hb s 18), .int .u8 (hb s 19)] 51) = wn at HRG2 HC2 ⊢
        generalize wr.heap.size = gn at HRG2 ⊢
        clear HRG HNEW HC
        go_wp2_with (first
          | ((with_reducible refine gate_dst (N := 53) rfl ?_); refine wpList_load_mid rfl 51 (.tmp 9) rfl gn 0 ?hx [.int .u8 (hb s 0), .int .u8 (hb s 1), .int .u8 (hb s 2), .int .u8 (hb s 3), .int .u8 (hb s 4), .int .u8 (hb s 5), .int .u8 (hb s 6), .int .u8 (hb s 7), .int .u8 (hb s 8), .int .u8 (hb s 9), .int .u8 (hb s 10), .int .u8 (hb s 11), .int .u8 (hb s 12), .int .u8 (hb s 13), .int .u8 (hb s 14), .int .u8 (hb s 15), .int .u8 (hb s 16), .int .u8 (hb s 17), .int .u8 (hb s 18), .int .u8 (hb s 19)] _ HRG2.out Tryd.underlying51 rfl info41 ?_
             case hx => first | rfl | (simp [Act.eval]; done) | (go_simp; done))
          | (go_at_call 64
             (with_reducible refine (PH2.out s _ _ HMS.out HC2.out).mono ?_)
             rintro x wc ⟨rfl, k3⟩
             have T3 := Aside0.mk k3
             obtain ⟨e0, e1, e2⟩ := k3.res
             clear k3)
          | (go_at_call 48
             (with_reducible refine (PP.out k s _ HS.out T3.out).mono ?_)
             rintro x wd ⟨n1, rfl, k4⟩
             have T4 := Aside0.mk k4
             obtain ⟨e0, e1, e2⟩ := k4.res
             clear k4)
          | fail)
        go_roundg m
        case measure => omega
        case rel => exact ⟨k + 1, by first | rfl | rw [HWK.out], ⟨by have := HK.out; omega⟩, T4⟩
      · have hke : k = np := by have := HK.out; omega
        subst hke
        have T2 : Aside0 (Ca w0 wr o E g tv an ae asec ansec az cn ce csec cnsec cz pgp msg PV enc pb pcs k ([] ++ nums (cTree ++ th ++ tNl) ++ parOut ps)) := ⟨by
          have := HC.out
          rwa [HNP.out.1, List.take_length, ← HNP.out.1] at this⟩
        obtain ⟨e0, e1, e2⟩ := T2.out.res
        clear HC HK PH2 PP
        go_wp2_with (first
          | (go_at_call 48
             (with_reducible refine (PA.out _ T2.out).mono ?_)
             rintro x wTA ⟨n5, rfl, k9⟩
             have TA := Aside0.mk k9
             obtain ⟨e0, e1, e2⟩ := k9.res
             obtain ⟨c30, c31, c32, -, c54, c55⟩ := k9.cells
             clear k9 PA)
          | (go_at_call 67
             (with_reducible refine (PA2.out _ TA.out).mono ?_)
             rintro x wTA2 ⟨rfl, k9⟩
             have TA2 := Aside0.mk k9
             obtain ⟨e0, e1, e2⟩ := k9.res
             obtain ⟨c30, c31, c32, -, c54, c55⟩ := k9.cells
             clear k9 PA2)
          | (go_at_call 48
             (with_reducible refine (PC.out _ TA2.out).mono ?_)
             rintro x wTC ⟨n7, rfl, k9⟩
             have TC := Aside0.mk k9
             obtain ⟨e0, e1, e2⟩ := k9.res
             obtain ⟨c30, c31, c32, -, c54, c55⟩ := k9.cells
             clear k9 PC)
          | (go_at_call 67
             (with_reducible refine (PC2.out _ TC.out).mono ?_)
             rintro x wTC2 ⟨rfl, k9⟩
             have TC2 := Aside0.mk k9
             obtain ⟨e0, e1, e2⟩ := k9.res
             obtain ⟨c30, c31, c32, -, c54, c55⟩ := k9.cells
             clear k9 PC2)
          | fail)
        go_loopg [156] 0 (fun gk v156 w' => v156 = .int .i64 0 ∧ Aside0 (Ca w0 w' o E g tv an ae asec ansec az cn ce csec cnsec cz pgp msg PV enc pb pcs k ([] ++ nums (cTree ++ th ++ tNl) ++ parOut ps ++ nums cAuth ++ nums (who an ae asec az) ++ nums cComm ++ nums (who cn ce csec cz))))
        case atStart => exact ⟨rfl, TC2⟩
        case round =>
          obtain ⟨rfl, HC⟩ := hrel
          obtain ⟨e0, e1, e2⟩ := HC.out.res
          obtain ⟨-, c31, c32, -, -, -⟩ := HC.out.cells
          go_wp2_with (first
            | (go_at_call 48
               (with_reducible refine (PS.out _ HC.out).mono ?_)
               rintro x wTS ⟨n9, rfl, k9⟩
               have TS := Aside0.mk k9
               obtain ⟨e0, e1, e2⟩ := k9.res
               obtain ⟨c30, c31, c32, -, c54, c55⟩ := k9.cells
               clear k9 PS)
            | (go_at_call 69
               (with_reducible refine (PT.out _ TS.out).mono ?_)
               rintro x wTS2 ⟨rfl, k9⟩
               have TS2 := Aside0.mk k9
               obtain ⟨e0, e1, e2⟩ := k9.res
               obtain ⟨c30, c31, c32, -, c54, c55⟩ := k9.cells
               clear k9 PT)
            | (go_at_call 70
               (with_reducible refine (PZ.out _ TS2.out).mono ?_)
               rintro x wTZ ⟨v, rfl, kR, k9⟩
               have TZ := Aside0.mk k9
               have KR := Aside0.mk kR
               obtain ⟨e0, e1, e2⟩ := k9.res
               obtain ⟨c30, c31, c32, -, c54, c55⟩ := k9.cells
               clear k9 PZ kR)
            | (go_at_call 71
               (with_reducible refine (PJN.out _ _ _ KR.out TZ.out).mono ?_)
               rintro x wTJ ⟨rfl, k9⟩
               have TJ := Aside0.mk k9
               obtain ⟨e0, e1, e2⟩ := k9.res
               obtain ⟨c30, c31, c32, -, c54, c55⟩ := k9.cells
               clear k9 PJN)
            | (go_at_call 48
               (with_reducible refine (PJ.out _ TJ.out).mono ?_)
               rintro x wTJ2 ⟨n9, rfl, k9⟩
               have TJ2 := Aside0.mk k9
               obtain ⟨e0, e1, e2⟩ := k9.res
               obtain ⟨c30, c31, c32, -, c54, c55⟩ := k9.cells
               clear k9 PJ)
            | (go_at_call 48
               (with_reducible refine (PM.out _ TJ2.out).mono ?_)
               rintro x wTM ⟨n9, rfl, k9⟩
               have TM := Aside0.mk k9
               obtain ⟨e0, e1, e2⟩ := k9.res
               obtain ⟨c30, c31, c32, -, c54, c55⟩ := k9.cells
               clear k9 PM)
            | fail)
          refine leaves_cons (f := 44) (args := #[.iface 57 (.pointer (some ⟨o, 0, none⟩)), .pointer (some ⟨E, 0, none⟩)]) (by simp) (enters_of Tryd.func44 (by kernel_rfl) rfl _ _) ?_
          refine (checkClose o ⟨E, 0, none⟩ _ _).mono ?_
          rintro e u' wz ⟨rfl, rfl, rfl⟩
          refine ⟨.nilIface, ?_, rfl, TM.out.mo⟩
          rw [results_cell1 (p := 6) (ty := 63) rfl]
          show (Result.ok (⟨E, 0, none⟩ : Addr) _).andThen _ = _
          exact load63 TM.out.res.1

end Go.Proofs.YtddnepddilbikaaDoor.ObjI

set_option linter.unusedVariables false
set_option linter.unusedSimpArgs false
namespace Go.Proofs.YtddnepddilbikaaDoor.ObjJ
open Go.RowKit Go.Proofs.YtddnepddilbikaaDoorW.PrintLast Go.Proofs.YtddnepddilbikaaDoorW.PrintMore Go.Proofs.YtddnepddilbikaaDoor.QAll Ptr SrtL ObjA ObjB ObjC ObjD ObjE ObjF ObjH ObjI
open Go.Proofs.YtddnepddilbikaaDoorW.PrintWords hiding nums

theorem hashesOf2 (A0 : Option Addr) (c : Nat) (l : List ByteArray) (ev : Value) (w : World) (hC : Kd.C Kd.string w A0 l.length l) (hn : l.length ≤ 1000) (hE : w.cell? ⟨2, 0, none⟩ = some ev) (hg : ∀ s ∈ l, s.size = 40 ∧ (dec s).length = 20) :
    Calls Tryd.prog 39 #[.slice A0 l.length c] w fun e w' => ∃ A d, e = .returned (.slice A l.length d) ∧ kH.R 51 w' w.heap.size (fun _ => True) (.slice A l.length d) l ∧ Below w.heap.size w w' :=
  (hashesOf A0 c l ev w hC hn hE hg).mono (by
    rintro e w' ⟨v, rfl, h1, h2⟩
    obtain ⟨A, d, rfl⟩ := Kd.R_slice h1
    exact ⟨A, d, rfl, h1, h2⟩)
/-- The row of parents, taken apart. -/
theorem row_of {W : World} {b : Nat} {A : Option Addr} {d : Nat} {l : List ByteArray} (h : kH.R 51 W b (fun _ => True) (.slice A l.length d) l) : ∃ (pb : Nat) (pcs : Array Value), (0 < l.length → A = some ⟨pb, 0, none⟩ ∧ W.heap[pb]? = some (.cells pcs 51 (0, 0))) ∧ ∀ (k : Nat) (s : ByteArray), l[k]? = some s → ∀ j, j < 20 → pcs[k * 20 + j]? = some (.int .u8 (hb s j)) := by
  by_cases z : 0 < l.length
  · obtain ⟨g, cap, e, _, _, pcs, hpc⟩ := Kd.R_form h z
    injection e with e1 e2 e3
    obtain ⟨_, _, hC⟩ := Kd.R_reads' h
    refine ⟨g, pcs, fun _ => ⟨e1, hpc⟩, fun k s hk j hj => ?_⟩
    have hkl := (List.getElem?_eq_some_iff.1 hk).1
    obtain ⟨ad, cs, e4, _, hK, hr⟩ := Kd.C_get hC ByteArray.empty (k : Int) (by omega) (by omega)
    rw [e1] at e4
    cases e4
    rw [Int.toNat_natCast, List.getD_eq_getElem?_getD, hk] at hK
    obtain rfl : cs = hcells (hb s) := hK
    have hv : (hcells (hb s))[j]? = some (.int .u8 (hb s j)) := by
      have : ∀ j, j < 20 → (hcells (hb s))[j]? = some (.int .u8 (hb s j)) := by
        intro j hj
        iterate 20 (rcases j with _ | j; · rfl)
        omega
      exact this j hj
    have h5 := hr j _ hv
    rw [Int.toNat_natCast] at h5
    have e6 : (⟨g, 0, none⟩ : Addr).add (k * 20 + j) = ⟨g, k * 20 + j, none⟩ := by unfold Addr.add; split <;> simp_all
    have h6 : W.cell? ((⟨g, 0, none⟩ : Addr).add (k * 20 + j)) = some (.int .u8 (hb s j)) := h5
    rw [e6, Lib.cell_of_heap hpc] at h6
    exact h6
  · have hz : l = [] := List.eq_nil_of_length_eq_zero (by omega)
    subst hz
    exact ⟨0, #[], fun h => absurd h z, fun k s hk => by simp at hk⟩
set_option maxHeartbeats 8000000 in
set_option maxRecDepth 100000 in
theorem encode40 {w0 W : World} {o g : Nat} {OUT : List Int} (h : Calls Tryd.prog 59 #[.pointer (some ⟨g, 0, none⟩), .iface 57 (.pointer (some ⟨o, 0, none⟩)), .bool true] W fun e w' => e = .returned .nilIface ∧ Mo w0 w' o 1 OUT) :
    Calls Tryd.prog 40 #[.pointer (some ⟨g, 0, none⟩), .iface 57 (.pointer (some ⟨o, 0, none⟩))] W fun e w' => e = .returned .nilIface ∧ Mo w0 w' o 1 OUT := by
  have HT := Aside0.mk h
  clear h
  go_enter Tryd.func40, Tryd.ntmps40
  go_wp2_with (first
    | (go_at_call 59
       (with_reducible refine HT.out.mono ?_)
       rintro x w1 ⟨rfl, k⟩
       have K := Aside0.mk k
       clear k)
    | fail)
  go_ret
  exact ⟨rfl, K.out⟩
def encCom1.T1 : Bool × List (List Nat × List Nat) := (true, [([], []), ([0], [0]), ([1], [1]), ([], []), ([3], [3]), ([4, 2], [4]), ([], []), ([6], [6]), ([7, 5], [7]), ([], []), ([9], [9]), ([10, 8], [10]), ([], []), ([12], [12]), ([], []), ([14], [14]), ([], []), ([16], [16]), ([], []), ([18], [18]), ([2, 5, 8, 11, 13, 15, 17, 19], [2, 5, 8, 11, 13, 15, 17, 19]), ([20], [20]), ([21, 11, 0, 1, 2, 3, 4, 5, 6, 7, 8, 9, 10, 11, 12, 13, 14, 15, 16, 17, 18, 19, 20, 21], [21])])
def encCom1.B1 : List Nat := [0, 1, 3, 0, 8, 31, 0, 64, 255, 0, 512, 2047, 0, 4096, 0, 16384, 0, 65536, 0, 262144, 1048575, 2097151, 4194303]
theorem encCom1.tab1 : rtab .any (opsOf Tryd.f17 1) = encCom1.T1 := by kernel_rfl
theorem encCom1.bits1 : waitsOk encCom1.T1.2 encCom1.B1 = true := by kernel_rfl
set_option maxHeartbeats 16000000 in
set_option maxRecDepth 100000 in
theorem encodeCommit {th an ae cn ce pgp enc msg : ByteArray} {ps : List ByteArray} {A1 : Option Addr} {c1 : Nat} {aw asec az cw csec cz : Int} {OUT : List Int} {ev : Value} {aE : Addr} (w : World)
    (hs : th.size = 40) (hd : (dec th).length = 20) (hCP : Kd.C Kd.string w A1 ps.length ps) (hn1 : ps.length ≤ 1000) (hga : ∀ s ∈ ps, s.size = 40 ∧ (dec s).length = 20)
    (hsa : impl_signatureOf.f an ae aw az = some (an, ae, asec, 0, az)) (hsc : impl_signatureOf.f cn ce cw cz = some (cn, ce, csec, 0, cz))
    (hen : ∀ (W : World) (o g pb : Nat) (pcs : Array Value) (AP : Option Addr) (cp : Nat), Mo w W o 0 [] → W.heap[g]? = some (.cells (ccells (hb th) an ae asec 0 az cn ce csec 0 cz pgp msg (.slice AP ps.length cp) enc) 89 (0, 0)) → g ≠ o → (0 < ps.length → W.heap[pb]? = some (.cells pcs 51 (0, 0))) → (0 < ps.length → pb ≠ o) → (0 < ps.length → AP = some ⟨pb, 0, none⟩) → (∀ (k : Nat) (s : ByteArray), ps[k]? = some s → ∀ j, j < 20 → pcs[k * 20 + j]? = some (.int .u8 (hb s j))) → Calls Tryd.prog 59 #[.pointer (some ⟨g, 0, none⟩), .iface 57 (.pointer (some ⟨o, 0, none⟩)), .bool true] W fun e w' => e = .returned .nilIface ∧ Mo w w' o 1 OUT)
    (hl : OUT.length ≤ 900000000) (hE : w.cell? ⟨1, 0, none⟩ = some (.iface 134 (.pointer (some aE)))) (hE2 : w.cell? ⟨2, 0, none⟩ = some ev) :
    Calls Tryd.prog 17 #[.agg #[.string th, .slice A1 ps.length c1, .string an, .string ae, .int .i64 aw, .int .i64 az, .string cn, .string ce, .int .i64 cw, .int .i64 cz, .string ⟨#[]⟩, .string pgp, .string enc, .string msg]] w fun e w' => ∃ B d, e = .returned (.tuple #[.slice B OUT.length d, .bool true]) ∧ OUT.length ≤ d ∧ Kd.C (Kd.int .u8) w' B OUT.length OUT ∧ Below w.heap.size w w' := by
  have HG := Aside0.mk (And.intro hs hd)
  have HCP := Aside0.mk hCP
  have HN := Aside0.mk hn1
  have HGA := Aside0.mk hga
  have HSA := Aside0.mk hsa
  have HSC := Aside0.mk hsc
  have HEN := Aside0.mk hen
  have HLL := Aside0.mk hl
  have HE := Aside0.mk hE
  have HE2 := Aside0.mk hE2
  clear hs hd hCP hn1 hga hsa hsc hen hl hE hE2
  go_enter Tryd.func17, Tryd.ntmps17
  go_upto_region 1 with fail
  have hg0 : (w.alloc (.cells #[.string th, .slice A1 ps.length c1, .string an, .string ae, .int .i64 aw, .int .i64 az, .string cn, .string ce, .int .i64 cw, .int .i64 cz, .string ⟨#[]⟩, .string pgp, .string enc, .string msg] 38)).heap[w.heap.size]? = some (.cells #[.string th, .slice A1 ps.length c1, .string an, .string ae, .int .i64 aw, .int .i64 az, .string cn, .string ce, .int .i64 cw, .int .i64 cz, .string ⟨#[]⟩, .string pgp, .string enc, .string msg] 38 (0, 0)) := blk_new _ _
  have HBA : Aside0 (Below w.heap.size w (w.alloc (.cells #[.string th, .slice A1 ps.length c1, .string an, .string ae, .int .i64 aw, .int .i64 az, .string cn, .string ce, .int .i64 cw, .int .i64 cz, .string ⟨#[]⟩, .string pgp, .string enc, .string msg] 38))) := ⟨below_alloc (Below.refl _ _) _⟩
  generalize w.alloc (.cells #[.string th, .slice A1 ps.length c1, .string an, .string ae, .int .i64 aw, .int .i64 az, .string cn, .string ce, .int .i64 cw, .int .i64 cz, .string ⟨#[]⟩, .string pgp, .string enc, .string msg] 38) = wa at hg0 HBA ⊢
  obtain ⟨gb, hgb⟩ : ∃ gb, gb = w.heap.size := ⟨_, rfl⟩
  rw [← hgb] at hg0
  simp only [← hgb]
  clear hgb
  have q0 : Below w.heap.size w wa.drew := HBA.out.trans ((below_drew1 (Below.refl _ _)).mono HBA.out.size)
  have q1 : wa.drew.cell? ⟨gb, 0, none⟩ = some (.string th) := (blk_cell hg0 0).trans rfl
  have q2 : wa.drew.cell? ⟨gb, 1, none⟩ = some (.slice A1 ps.length c1) := (blk_cell hg0 1).trans rfl
  have q3 : wa.drew.cell? ⟨gb, 2, none⟩ = some (.string an) := (blk_cell hg0 2).trans rfl
  have q4 : wa.drew.cell? ⟨gb, 3, none⟩ = some (.string ae) := (blk_cell hg0 3).trans rfl
  have q5 : wa.drew.cell? ⟨gb, 4, none⟩ = some (.int .i64 aw) := (blk_cell hg0 4).trans rfl
  have q6 : wa.drew.cell? ⟨gb, 5, none⟩ = some (.int .i64 az) := (blk_cell hg0 5).trans rfl
  have q7 : wa.drew.cell? ⟨gb, 6, none⟩ = some (.string cn) := (blk_cell hg0 6).trans rfl
  have q8 : wa.drew.cell? ⟨gb, 7, none⟩ = some (.string ce) := (blk_cell hg0 7).trans rfl
  have q9 : wa.drew.cell? ⟨gb, 8, none⟩ = some (.int .i64 cw) := (blk_cell hg0 8).trans rfl
  have q10 : wa.drew.cell? ⟨gb, 9, none⟩ = some (.int .i64 cz) := (blk_cell hg0 9).trans rfl
  have q11 : wa.drew.cell? ⟨gb, 10, none⟩ = some (.string ⟨#[]⟩) := (blk_cell hg0 10).trans rfl
  have q12 : wa.drew.cell? ⟨gb, 11, none⟩ = some (.string pgp) := (blk_cell hg0 11).trans rfl
  have q13 : wa.drew.cell? ⟨gb, 12, none⟩ = some (.string enc) := (blk_cell hg0 12).trans rfl
  have q14 : wa.drew.cell? ⟨gb, 13, none⟩ = some (.string msg) := (blk_cell hg0 13).trans rfl
  clear hg0
  refine start_ (n := 23) (S := fun w' => Below w.heap.size w w' ∧ w'.cell? ⟨gb, 0, none⟩ = some (.string th) ∧ w'.cell? ⟨gb, 1, none⟩ = some (.slice A1 ps.length c1) ∧ w'.cell? ⟨gb, 2, none⟩ = some (.string an) ∧ w'.cell? ⟨gb, 3, none⟩ = some (.string ae) ∧ w'.cell? ⟨gb, 4, none⟩ = some (.int .i64 aw) ∧ w'.cell? ⟨gb, 5, none⟩ = some (.int .i64 az) ∧ w'.cell? ⟨gb, 6, none⟩ = some (.string cn) ∧ w'.cell? ⟨gb, 7, none⟩ = some (.string ce) ∧ w'.cell? ⟨gb, 8, none⟩ = some (.int .i64 cw) ∧ w'.cell? ⟨gb, 9, none⟩ = some (.int .i64 cz) ∧ w'.cell? ⟨gb, 10, none⟩ = some (.string ⟨#[]⟩) ∧ w'.cell? ⟨gb, 11, none⟩ = some (.string pgp) ∧ w'.cell? ⟨gb, 12, none⟩ = some (.string enc) ∧ w'.cell? ⟨gb, 13, none⟩ = some (.string msg)) (ds := [21]) #[false, false, false, false, false, false, false, false, false, false, false, false, false, false, false, false, false, false, false, false, false, false, false] (by kernel_rfl) rfl rfl ⟨q0, q1, q2, q3, q4, q5, q6, q7, q8, q9, q10, q11, q12, q13, q14⟩ (fun hHeld => ?_)
  refine with_tabW encCom1.tab1 encCom1.bits1 (fun HT_ HW_ => ?_)
  generalize World.drew _ = wd at hHeld ⊢
  refine pure_ (i := 0) (N := some 6) (v := ?_) (a' := ?_) #[true, false, false, false, false, false, false, false, false, false, false, false, false, false, false, false, false, false, false, false, false, false, false] rfl rfl (any_of HT_.out (by kernel_rfl)) (fun _ _ _ h => h) (Or.inl ⟨by rfl, ?_⟩) ?_ ?_
  rotate_left
  · intro w'
    go_simp
    with_reducible rfl
  rotate_left
  · simp only [Act.put, List.setIfInBounds_toArray, List.set_cons_zero, List.set_cons_succ, i64_w, i32_w]
    rfl
  refine pure_ (i := 3) (N := some 9) (v := ?_) (a' := ?_) #[true, false, false, true, false, false, false, false, false, false, false, false, false, false, false, false, false, false, false, false, false, false, false] rfl rfl (any_of HT_.out (by kernel_rfl)) (fun _ _ _ h => h) (Or.inl ⟨by rfl, ?_⟩) ?_ ?_
  rotate_left
  · intro w'
    go_simp
    with_reducible rfl
  rotate_left
  · simp only [Act.put, List.setIfInBounds_toArray, List.set_cons_zero, List.set_cons_succ, i64_w, i32_w]
    rfl
  refine pure_ (i := 6) (N := some 12) (v := ?_) (a' := ?_) #[true, false, false, true, false, false, true, false, false, false, false, false, false, false, false, false, false, false, false, false, false, false, false] rfl rfl (any_of HT_.out (by kernel_rfl)) (fun _ _ _ h => h) (Or.inl ⟨by rfl, ?_⟩) ?_ ?_
  rotate_left
  · intro w'
    go_simp
    with_reducible rfl
  rotate_left
  · simp only [Act.put, List.setIfInBounds_toArray, List.set_cons_zero, List.set_cons_succ, i64_w, i32_w]
    rfl
  refine pure_ (i := 9) (N := some 15) (v := ?_) (a' := ?_) #[true, false, false, true, false, false, true, false, false, true, false, false, false, false, false, false, false, false, false, false, false, false, false] rfl rfl (any_of HT_.out (by kernel_rfl)) (fun _ _ _ h => h) (Or.inl ⟨by rfl, ?_⟩) ?_ ?_
  rotate_left
  · intro w'
    go_simp
    with_reducible rfl
  rotate_left
  · simp only [Act.put, List.setIfInBounds_toArray, List.set_cons_zero, List.set_cons_succ, i64_w, i32_w]
    rfl
  refine pure_ (i := 12) (N := some 18) (v := ?_) (a' := ?_) #[true, false, false, true, false, false, true, false, false, true, false, false, true, false, false, false, false, false, false, false, false, false, false] rfl rfl (any_of HT_.out (by kernel_rfl)) (fun _ _ _ h => h) (Or.inl ⟨by rfl, ?_⟩) ?_ ?_
  rotate_left
  · intro w'
    go_simp
    with_reducible rfl
  rotate_left
  · simp only [Act.put, List.setIfInBounds_toArray, List.set_cons_zero, List.set_cons_succ, i64_w, i32_w]
    rfl
  refine pure_ (i := 14) (N := some 20) (v := ?_) (a' := ?_) #[true, false, false, true, false, false, true, false, false, true, false, false, true, false, true, false, false, false, false, false, false, false, false] rfl rfl (any_of HT_.out (by kernel_rfl)) (fun _ _ _ h => h) (Or.inl ⟨by rfl, ?_⟩) ?_ ?_
  rotate_left
  · intro w'
    go_simp
    with_reducible rfl
  rotate_left
  · simp only [Act.put, List.setIfInBounds_toArray, List.set_cons_zero, List.set_cons_succ, i64_w, i32_w]
    rfl
  refine pure_ (i := 16) (N := some 22) (v := ?_) (a' := ?_) #[true, false, false, true, false, false, true, false, false, true, false, false, true, false, true, false, true, false, false, false, false, false, false] rfl rfl (any_of HT_.out (by kernel_rfl)) (fun _ _ _ h => h) (Or.inl ⟨by rfl, ?_⟩) ?_ ?_
  rotate_left
  · intro w'
    go_simp
    with_reducible rfl
  rotate_left
  · simp only [Act.put, List.setIfInBounds_toArray, List.set_cons_zero, List.set_cons_succ, i64_w, i32_w]
    rfl
  refine pure_ (i := 18) (N := some 24) (v := ?_) (a' := ?_) #[true, false, false, true, false, false, true, false, false, true, false, false, true, false, true, false, true, false, true, false, false, false, false] rfl rfl (any_of HT_.out (by kernel_rfl)) (fun _ _ _ h => h) (Or.inl ⟨by rfl, ?_⟩) ?_ ?_
  rotate_left
  · intro w'
    go_simp
    with_reducible rfl
  rotate_left
  · simp only [Act.put, List.setIfInBounds_toArray, List.set_cons_zero, List.set_cons_succ, i64_w, i32_w]
    rfl
  refine take_ (i := 1) (N := some 7) (v := ?_) (a' := ?_) #[true, true, false, true, false, false, true, false, false, true, false, false, true, false, true, false, true, false, true, false, false, false, false] rfl rfl (take_ofW HT_.out HW_.out (by kernel_rfl)) (fun _ _ _ h => h) (Or.inl ⟨by rfl, ?_⟩) hHeld ?_ ?_
  rotate_left
  · rintro w' ⟨s0, s1, s2, s3, s4, s5, s6, s7, s8, s9, s10, s11, s12, s13, s14⟩
    go_simp
    with_reducible rfl
  rotate_left
  · simp only [Act.put, List.setIfInBounds_toArray, List.set_cons_zero, List.set_cons_succ, i64_w, i32_w]
    rfl
  refine take_ (i := 4) (N := some 10) (v := ?_) (a' := ?_) #[true, true, false, true, true, false, true, false, false, true, false, false, true, false, true, false, true, false, true, false, false, false, false] rfl rfl (take_ofW HT_.out HW_.out (by kernel_rfl)) (fun _ _ _ h => h) (Or.inl ⟨by rfl, ?_⟩) hHeld ?_ ?_
  rotate_left
  · rintro w' ⟨s0, s1, s2, s3, s4, s5, s6, s7, s8, s9, s10, s11, s12, s13, s14⟩
    go_simp
    with_reducible rfl
  rotate_left
  · simp only [Act.put, List.setIfInBounds_toArray, List.set_cons_zero, List.set_cons_succ, i64_w, i32_w]
    rfl
  refine take_ (i := 7) (N := some 13) (v := ?_) (a' := ?_) #[true, true, false, true, true, false, true, true, false, true, false, false, true, false, true, false, true, false, true, false, false, false, false] rfl rfl (take_ofW HT_.out HW_.out (by kernel_rfl)) (fun _ _ _ h => h) (Or.inl ⟨by rfl, ?_⟩) hHeld ?_ ?_
  rotate_left
  · rintro w' ⟨s0, s1, s2, s3, s4, s5, s6, s7, s8, s9, s10, s11, s12, s13, s14⟩
    go_simp
    with_reducible rfl
  rotate_left
  · simp only [Act.put, List.setIfInBounds_toArray, List.set_cons_zero, List.set_cons_succ, i64_w, i32_w]
    rfl
  refine take_ (i := 10) (N := some 16) (v := ?_) (a' := ?_) #[true, true, false, true, true, false, true, true, false, true, true, false, true, false, true, false, true, false, true, false, false, false, false] rfl rfl (take_ofW HT_.out HW_.out (by kernel_rfl)) (fun _ _ _ h => h) (Or.inl ⟨by rfl, ?_⟩) hHeld ?_ ?_
  rotate_left
  · rintro w' ⟨s0, s1, s2, s3, s4, s5, s6, s7, s8, s9, s10, s11, s12, s13, s14⟩
    go_simp
    with_reducible rfl
  rotate_left
  · simp only [Act.put, List.setIfInBounds_toArray, List.set_cons_zero, List.set_cons_succ, i64_w, i32_w]
    rfl
  refine take_ (i := 13) (N := some 19) (v := ?_) (a' := ?_) #[true, true, false, true, true, false, true, true, false, true, true, false, true, true, true, false, true, false, true, false, false, false, false] rfl rfl (take_ofW HT_.out HW_.out (by kernel_rfl)) (fun _ _ _ h => h) (Or.inl ⟨by rfl, ?_⟩) hHeld ?_ ?_
  rotate_left
  · rintro w' ⟨s0, s1, s2, s3, s4, s5, s6, s7, s8, s9, s10, s11, s12, s13, s14⟩
    go_simp
    with_reducible rfl
  rotate_left
  · simp only [Act.put, List.setIfInBounds_toArray, List.set_cons_zero, List.set_cons_succ, i64_w, i32_w]
    rfl
  refine take_ (i := 15) (N := some 21) (v := ?_) (a' := ?_) #[true, true, false, true, true, false, true, true, false, true, true, false, true, true, true, true, true, false, true, false, false, false, false] rfl rfl (take_ofW HT_.out HW_.out (by kernel_rfl)) (fun _ _ _ h => h) (Or.inl ⟨by rfl, ?_⟩) hHeld ?_ ?_
  rotate_left
  · rintro w' ⟨s0, s1, s2, s3, s4, s5, s6, s7, s8, s9, s10, s11, s12, s13, s14⟩
    go_simp
    with_reducible rfl
  rotate_left
  · simp only [Act.put, List.setIfInBounds_toArray, List.set_cons_zero, List.set_cons_succ, i64_w, i32_w]
    rfl
  refine take_ (i := 17) (N := some 23) (v := ?_) (a' := ?_) #[true, true, false, true, true, false, true, true, false, true, true, false, true, true, true, true, true, true, true, false, false, false, false] rfl rfl (take_ofW HT_.out HW_.out (by kernel_rfl)) (fun _ _ _ h => h) (Or.inl ⟨by rfl, ?_⟩) hHeld ?_ ?_
  rotate_left
  · rintro w' ⟨s0, s1, s2, s3, s4, s5, s6, s7, s8, s9, s10, s11, s12, s13, s14⟩
    go_simp
    with_reducible rfl
  rotate_left
  · simp only [Act.put, List.setIfInBounds_toArray, List.set_cons_zero, List.set_cons_succ, i64_w, i32_w]
    rfl
  refine take_ (i := 19) (N := some 25) (v := ?_) (a' := ?_) #[true, true, false, true, true, false, true, true, false, true, true, false, true, true, true, true, true, true, true, true, false, false, false] rfl rfl (take_ofW HT_.out HW_.out (by kernel_rfl)) (fun _ _ _ h => h) (Or.inl ⟨by rfl, ?_⟩) hHeld ?_ ?_
  rotate_left
  · rintro w' ⟨s0, s1, s2, s3, s4, s5, s6, s7, s8, s9, s10, s11, s12, s13, s14⟩
    go_simp
    with_reducible rfl
  rotate_left
  · simp only [Act.put, List.setIfInBounds_toArray, List.set_cons_zero, List.set_cons_succ, i64_w, i32_w]
    rfl
  refine one_ (i := 2) (N := some 8) #[true, true, true, true, true, false, true, true, false, true, true, false, true, true, true, true, true, true, true, true, false, false, false] rfl rfl (one_of HT_.out (by kernel_rfl)) (by decide) (fun K hK => ?_)
  refine goes_ Tryd.func32 (by kernel_rfl) rfl #[.string th] (by rfl) rfl rfl (by simp only [List.map_toArray, List.map_cons, List.map_nil]; rfl) ?_
  with_reducible refine ((newHash th (hb th) (fun _ _ => rfl) ev _ (pw_cell_below hHeld.1 HE2.out) HG.out.1 HG.out.2)).mono ?_
  rintro e w7 ⟨rfl, hb7⟩
  refine ⟨_, rfl, ?_⟩
  refine hK.out _ _ ⟨(hHeld.1.trans (hb7.mono hHeld.1.size)), (pw_cell_below hb7 hHeld.2.1), (pw_cell_below hb7 hHeld.2.2.1), (pw_cell_below hb7 hHeld.2.2.2.1), (pw_cell_below hb7 hHeld.2.2.2.2.1), (pw_cell_below hb7 hHeld.2.2.2.2.2.1), (pw_cell_below hb7 hHeld.2.2.2.2.2.2.1), (pw_cell_below hb7 hHeld.2.2.2.2.2.2.2.1), (pw_cell_below hb7 hHeld.2.2.2.2.2.2.2.2.1), (pw_cell_below hb7 hHeld.2.2.2.2.2.2.2.2.2.1), (pw_cell_below hb7 hHeld.2.2.2.2.2.2.2.2.2.2.1), (pw_cell_below hb7 hHeld.2.2.2.2.2.2.2.2.2.2.2.1), (pw_cell_below hb7 hHeld.2.2.2.2.2.2.2.2.2.2.2.2.1), (pw_cell_below hb7 hHeld.2.2.2.2.2.2.2.2.2.2.2.2.2.1), (pw_cell_below hb7 hHeld.2.2.2.2.2.2.2.2.2.2.2.2.2.2)⟩ (fun hHeld => ?_)
  clear hK K
  refine norm_ (a' := ?_) ?_ ?_
  rotate_left
  · show Act.put _ (some 8) _ = _
    simp only [Act.put, List.setIfInBounds_toArray, List.set_cons_zero, List.set_cons_succ, i64_w, i32_w]
    rfl
  refine one_ (i := 5) (N := some 11) #[true, true, true, true, true, true, true, true, false, true, true, false, true, true, true, true, true, true, true, true, false, false, false] rfl rfl (one_of HT_.out (by kernel_rfl)) (by decide) (fun K hK => ?_)
  refine goes_ Tryd.func39 (by kernel_rfl) rfl #[.slice A1 ps.length c1] (by rfl) rfl rfl (by simp only [List.map_toArray, List.map_cons, List.map_nil]; rfl) ?_
  with_reducible refine ((hashesOf2 A1 c1 ps ev _ (Kd.C_below HCP.out hHeld.1) HN.out (pw_cell_below hHeld.1 HE2.out) HGA.out)).mono ?_
  rintro e w8 ⟨AP, cp, rfl, hR8, hb8⟩
  refine ⟨_, rfl, ?_⟩
  have HRP := Aside0.mk hR8
  clear hR8
  refine hK.out _ _ ⟨(hHeld.1.trans (hb8.mono hHeld.1.size)), (pw_cell_below hb8 hHeld.2.1), (pw_cell_below hb8 hHeld.2.2.1), (pw_cell_below hb8 hHeld.2.2.2.1), (pw_cell_below hb8 hHeld.2.2.2.2.1), (pw_cell_below hb8 hHeld.2.2.2.2.2.1), (pw_cell_below hb8 hHeld.2.2.2.2.2.2.1), (pw_cell_below hb8 hHeld.2.2.2.2.2.2.2.1), (pw_cell_below hb8 hHeld.2.2.2.2.2.2.2.2.1), (pw_cell_below hb8 hHeld.2.2.2.2.2.2.2.2.2.1), (pw_cell_below hb8 hHeld.2.2.2.2.2.2.2.2.2.2.1), (pw_cell_below hb8 hHeld.2.2.2.2.2.2.2.2.2.2.2.1), (pw_cell_below hb8 hHeld.2.2.2.2.2.2.2.2.2.2.2.2.1), (pw_cell_below hb8 hHeld.2.2.2.2.2.2.2.2.2.2.2.2.2.1), (pw_cell_below hb8 hHeld.2.2.2.2.2.2.2.2.2.2.2.2.2.2)⟩ (fun hHeld => ?_)
  clear hK K
  refine norm_ (a' := ?_) ?_ ?_
  rotate_left
  · show Act.put _ (some 11) _ = _
    simp only [Act.put, List.setIfInBounds_toArray, List.set_cons_zero, List.set_cons_succ, i64_w, i32_w]
    rfl
  refine one_ (i := 8) (N := some 14) #[true, true, true, true, true, true, true, true, true, true, true, false, true, true, true, true, true, true, true, true, false, false, false] rfl rfl (one_of HT_.out (by kernel_rfl)) (by decide) (fun K hK => ?_)
  refine goes_ Tryd.func33 (by kernel_rfl) rfl #[.agg #[.string an, .string ae, .int .i64 aw, .int .i64 az]] (by rfl) rfl rfl (by simp only [List.map_toArray, List.map_cons, List.map_nil]; rfl) ?_
  with_reducible refine ((impl_signatureOf.calls an ae aw az an ae asec 0 az _ HSA.out)).mono ?_
  rintro e w9 ⟨rfl, hb9⟩
  refine ⟨_, rfl, ?_⟩
  have HX9 := Aside0.mk hb9
  refine hK.out _ _ ⟨(hHeld.1.trans (hb9.mono hHeld.1.size)), (pw_cell_below hb9 hHeld.2.1), (pw_cell_below hb9 hHeld.2.2.1), (pw_cell_below hb9 hHeld.2.2.2.1), (pw_cell_below hb9 hHeld.2.2.2.2.1), (pw_cell_below hb9 hHeld.2.2.2.2.2.1), (pw_cell_below hb9 hHeld.2.2.2.2.2.2.1), (pw_cell_below hb9 hHeld.2.2.2.2.2.2.2.1), (pw_cell_below hb9 hHeld.2.2.2.2.2.2.2.2.1), (pw_cell_below hb9 hHeld.2.2.2.2.2.2.2.2.2.1), (pw_cell_below hb9 hHeld.2.2.2.2.2.2.2.2.2.2.1), (pw_cell_below hb9 hHeld.2.2.2.2.2.2.2.2.2.2.2.1), (pw_cell_below hb9 hHeld.2.2.2.2.2.2.2.2.2.2.2.2.1), (pw_cell_below hb9 hHeld.2.2.2.2.2.2.2.2.2.2.2.2.2.1), (pw_cell_below hb9 hHeld.2.2.2.2.2.2.2.2.2.2.2.2.2.2)⟩ (fun hHeld => ?_)
  clear hK K
  refine norm_ (a' := ?_) ?_ ?_
  rotate_left
  · show Act.put _ (some 14) _ = _
    simp only [Act.put, List.setIfInBounds_toArray, List.set_cons_zero, List.set_cons_succ, i64_w, i32_w]
    rfl
  refine one_ (i := 11) (N := some 17) #[true, true, true, true, true, true, true, true, true, true, true, true, true, true, true, true, true, true, true, true, false, false, false] rfl rfl (one_of HT_.out (by kernel_rfl)) (by decide) (fun K hK => ?_)
  refine goes_ Tryd.func33 (by kernel_rfl) rfl #[.agg #[.string cn, .string ce, .int .i64 cw, .int .i64 cz]] (by rfl) rfl rfl (by simp only [List.map_toArray, List.map_cons, List.map_nil]; rfl) ?_
  with_reducible refine ((impl_signatureOf.calls cn ce cw cz cn ce csec 0 cz _ HSC.out)).mono ?_
  rintro e wf ⟨rfl, hbf⟩
  refine ⟨_, rfl, ?_⟩
  have HXf := Aside0.mk hbf
  refine hK.out _ _ ⟨(hHeld.1.trans (hbf.mono hHeld.1.size)), (pw_cell_below hbf hHeld.2.1), (pw_cell_below hbf hHeld.2.2.1), (pw_cell_below hbf hHeld.2.2.2.1), (pw_cell_below hbf hHeld.2.2.2.2.1), (pw_cell_below hbf hHeld.2.2.2.2.2.1), (pw_cell_below hbf hHeld.2.2.2.2.2.2.1), (pw_cell_below hbf hHeld.2.2.2.2.2.2.2.1), (pw_cell_below hbf hHeld.2.2.2.2.2.2.2.2.1), (pw_cell_below hbf hHeld.2.2.2.2.2.2.2.2.2.1), (pw_cell_below hbf hHeld.2.2.2.2.2.2.2.2.2.2.1), (pw_cell_below hbf hHeld.2.2.2.2.2.2.2.2.2.2.2.1), (pw_cell_below hbf hHeld.2.2.2.2.2.2.2.2.2.2.2.2.1), (pw_cell_below hbf hHeld.2.2.2.2.2.2.2.2.2.2.2.2.2.1), (pw_cell_below hbf hHeld.2.2.2.2.2.2.2.2.2.2.2.2.2.2)⟩ (fun hHeld => ?_)
  clear hK K
  refine norm_ (a' := ?_) ?_ ?_
  rotate_left
  · show Act.put _ (some 17) _ = _
    simp only [Act.put, List.setIfInBounds_toArray, List.set_cons_zero, List.set_cons_succ, i64_w, i32_w]
    rfl
  refine pure_ (i := 20) (N := some 26) (v := ?_) (a' := ?_) #[true, true, true, true, true, true, true, true, true, true, true, true, true, true, true, true, true, true, true, true, true, false, false] rfl rfl (any_of HT_.out (by kernel_rfl)) (fun _ _ _ h => h) (Or.inl ⟨by rfl, ?_⟩) ?_ ?_
  rotate_left
  · intro w'
    go_simp
    with_reducible rfl
  rotate_left
  · simp only [Act.put, List.setIfInBounds_toArray, List.set_cons_zero, List.set_cons_succ, i64_w, i32_w]
    rfl
  refine last_ (i := 21) (N := some 27) #[true, true, true, true, true, true, true, true, true, true, true, true, true, true, true, true, true, true, true, true, true, true, false] rfl rfl (one_of HT_.out (by kernel_rfl)) (by decide) (fun K hK => ?_)
  have HS9 := Aside0.mk hHeld.1
  refine value_ (w1 := ?_) (v := ?_) (by rfl) rfl ?_ ?_
  rotate_left 2
  · go_simp
    constructor
    · rfl
    · rfl
  refine hK.out _ _ ?_
  clear hK K
  refine norm_ (a' := ?_) ?_ ?_
  rotate_left
  · show Act.put _ (some 27) _ = _
    simp only [Act.put, List.setIfInBounds_toArray, List.set_cons_zero, List.set_cons_succ, i64_w, i32_w]
    rfl
  refine pure_ (i := 22) (N := some 4) (v := ?_) (a' := ?_) #[true, true, true, true, true, true, true, true, true, true, true, true, true, true, true, true, true, true, true, true, true, true, true] rfl rfl (any_of HT_.out (by kernel_rfl)) (fun _ _ _ h => h) (Or.inl ⟨by rfl, ?_⟩) ?_ ?_
  rotate_left
  · intro w'
    go_simp
    with_reducible rfl
  rotate_left
  · simp only [Act.put, List.setIfInBounds_toArray, List.set_cons_zero, List.set_cons_succ, i64_w, i32_w]
    rfl
  refine done_ (done_of HT_.out (by kernel_rfl)) ?_
  have hgt : (wf.alloc (.cells #[.int .u8 0, .int .u8 0, .int .u8 0, .int .u8 0, .int .u8 0, .int .u8 0, .int .u8 0, .int .u8 0, .int .u8 0, .int .u8 0, .int .u8 0, .int .u8 0, .int .u8 0, .int .u8 0, .int .u8 0, .int .u8 0, .int .u8 0, .int .u8 0, .int .u8 0, .int .u8 0, .string an, .string ae, .int .i64 asec, .int .i64 0, .int .i64 az, .string cn, .string ce, .int .i64 csec, .int .i64 0, .int .i64 cz, .string ⟨#[]⟩, .string pgp, .string msg, .int .u8 (hb th 0), .int .u8 (hb th 1), .int .u8 (hb th 2), .int .u8 (hb th 3), .int .u8 (hb th 4), .int .u8 (hb th 5), .int .u8 (hb th 6), .int .u8 (hb th 7), .int .u8 (hb th 8), .int .u8 (hb th 9), .int .u8 (hb th 10), .int .u8 (hb th 11), .int .u8 (hb th 12), .int .u8 (hb th 13), .int .u8 (hb th 14), .int .u8 (hb th 15), .int .u8 (hb th 16), .int .u8 (hb th 17), .int .u8 (hb th 18), .int .u8 (hb th 19), .slice AP ps.length cp, .string enc, .slice none 0 0, .nilIface, .nilIface] 89)).heap[wf.heap.size]? = some (.cells (ccells (hb th) an ae asec 0 az cn ce csec 0 cz pgp msg (.slice AP ps.length cp) enc) 89 (0, 0)) := blk_new _ _
  have HB9 : Aside0 (Below w.heap.size w (wf.alloc (.cells #[.int .u8 0, .int .u8 0, .int .u8 0, .int .u8 0, .int .u8 0, .int .u8 0, .int .u8 0, .int .u8 0, .int .u8 0, .int .u8 0, .int .u8 0, .int .u8 0, .int .u8 0, .int .u8 0, .int .u8 0, .int .u8 0, .int .u8 0, .int .u8 0, .int .u8 0, .int .u8 0, .string an, .string ae, .int .i64 asec, .int .i64 0, .int .i64 az, .string cn, .string ce, .int .i64 csec, .int .i64 0, .int .i64 cz, .string ⟨#[]⟩, .string pgp, .string msg, .int .u8 (hb th 0), .int .u8 (hb th 1), .int .u8 (hb th 2), .int .u8 (hb th 3), .int .u8 (hb th 4), .int .u8 (hb th 5), .int .u8 (hb th 6), .int .u8 (hb th 7), .int .u8 (hb th 8), .int .u8 (hb th 9), .int .u8 (hb th 10), .int .u8 (hb th 11), .int .u8 (hb th 12), .int .u8 (hb th 13), .int .u8 (hb th 14), .int .u8 (hb th 15), .int .u8 (hb th 16), .int .u8 (hb th 17), .int .u8 (hb th 18), .int .u8 (hb th 19), .slice AP ps.length cp, .string enc, .slice none 0 0, .nilIface, .nilIface] 89)) ∧ Below w8.heap.size w8 (wf.alloc (.cells #[.int .u8 0, .int .u8 0, .int .u8 0, .int .u8 0, .int .u8 0, .int .u8 0, .int .u8 0, .int .u8 0, .int .u8 0, .int .u8 0, .int .u8 0, .int .u8 0, .int .u8 0, .int .u8 0, .int .u8 0, .int .u8 0, .int .u8 0, .int .u8 0, .int .u8 0, .int .u8 0, .string an, .string ae, .int .i64 asec, .int .i64 0, .int .i64 az, .string cn, .string ce, .int .i64 csec, .int .i64 0, .int .i64 cz, .string ⟨#[]⟩, .string pgp, .string msg, .int .u8 (hb th 0), .int .u8 (hb th 1), .int .u8 (hb th 2), .int .u8 (hb th 3), .int .u8 (hb th 4), .int .u8 (hb th 5), .int .u8 (hb th 6), .int .u8 (hb th 7), .int .u8 (hb th 8), .int .u8 (hb th 9), .int .u8 (hb th 10), .int .u8 (hb th 11), .int .u8 (hb th 12), .int .u8 (hb th 13), .int .u8 (hb th 14), .int .u8 (hb th 15), .int .u8 (hb th 16), .int .u8 (hb th 17), .int .u8 (hb th 18), .int .u8 (hb th 19), .slice AP ps.length cp, .string enc, .slice none 0 0, .nilIface, .nilIface] 89))) := ⟨HS9.out.trans ((below_alloc (Below.refl _ _) _).mono HS9.out.size), (HX9.out.trans (HXf.out.mono HX9.out.size)).trans ((below_alloc (Below.refl _ _) _).mono (Nat.le_trans HX9.out.size HXf.out.size))⟩
  generalize wf.alloc (.cells #[.int .u8 0, .int .u8 0, .int .u8 0, .int .u8 0, .int .u8 0, .int .u8 0, .int .u8 0, .int .u8 0, .int .u8 0, .int .u8 0, .int .u8 0, .int .u8 0, .int .u8 0, .int .u8 0, .int .u8 0, .int .u8 0, .int .u8 0, .int .u8 0, .int .u8 0, .int .u8 0, .string an, .string ae, .int .i64 asec, .int .i64 0, .int .i64 az, .string cn, .string ce, .int .i64 csec, .int .i64 0, .int .i64 cz, .string ⟨#[]⟩, .string pgp, .string msg, .int .u8 (hb th 0), .int .u8 (hb th 1), .int .u8 (hb th 2), .int .u8 (hb th 3), .int .u8 (hb th 4), .int .u8 (hb th 5), .int .u8 (hb th 6), .int .u8 (hb th 7), .int .u8 (hb th 8), .int .u8 (hb th 9), .int .u8 (hb th 10), .int .u8 (hb th 11), .int .u8 (hb th 12), .int .u8 (hb th 13), .int .u8 (hb th 14), .int .u8 (hb th 15), .int .u8 (hb th 16), .int .u8 (hb th 17), .int .u8 (hb th 18), .int .u8 (hb th 19), .slice AP ps.length cp, .string enc, .slice none 0 0, .nilIface, .nilIface] 89) = wg at hgt HB9 ⊢
  obtain ⟨gt, hgte⟩ : ∃ gt, gt = wf.heap.size := ⟨_, rfl⟩
  rw [← hgte] at hgt
  simp only [← hgte]
  clear hgte HS9
  have HGT := Aside0.mk hgt
  clear hgt
  go_upto_region 3 with fail
  have hbox : (wg.alloc (.cells #[.int .i8 0, .int .u8 0, .int .u8 0, .int .u8 0, .int .u8 0, .int .u8 0, .int .u8 0, .int .u8 0, .int .u8 0, .int .u8 0, .int .u8 0, .int .u8 0, .int .u8 0, .int .u8 0, .int .u8 0, .int .u8 0, .int .u8 0, .int .u8 0, .int .u8 0, .int .u8 0, .int .u8 0, .slice none 0 0, .int .i64 0] 61)).heap[wg.heap.size]? = some (.cells (mcells 0 (.slice none 0 0) 0) 61 (0, 0)) := blk_new _ _
  have hb : Below wg.heap.size wg (wg.alloc (.cells #[.int .i8 0, .int .u8 0, .int .u8 0, .int .u8 0, .int .u8 0, .int .u8 0, .int .u8 0, .int .u8 0, .int .u8 0, .int .u8 0, .int .u8 0, .int .u8 0, .int .u8 0, .int .u8 0, .int .u8 0, .int .u8 0, .int .u8 0, .int .u8 0, .int .u8 0, .int .u8 0, .int .u8 0, .slice none 0 0, .int .i64 0] 61)) := below_alloc (Below.refl _ _) _
  generalize wg.alloc (.cells #[.int .i8 0, .int .u8 0, .int .u8 0, .int .u8 0, .int .u8 0, .int .u8 0, .int .u8 0, .int .u8 0, .int .u8 0, .int .u8 0, .int .u8 0, .int .u8 0, .int .u8 0, .int .u8 0, .int .u8 0, .int .u8 0, .int .u8 0, .int .u8 0, .int .u8 0, .int .u8 0, .int .u8 0, .slice none 0 0, .int .i64 0] 61) = wi at hbox hb ⊢
  obtain ⟨o, ho⟩ : ∃ o, o = wg.heap.size := ⟨_, rfl⟩
  simp only [← ho] at hbox ⊢
  have HK : Aside0 (Calls Tryd.prog 40 #[.pointer (some ⟨gt, 0, none⟩), .iface 57 (.pointer (some ⟨o, 0, none⟩))] wi fun e w' => e = .returned .nilIface ∧ Mo w w' o 1 OUT) := ⟨by
    obtain ⟨pb, pcs, h1, h2⟩ := row_of HRP.out
    have hB := HB9.out.2
    have hlt := blk_lt HGT.out
    exact encode40 (HEN.out wi o gt pb pcs AP cp ⟨.slice none 0 0, hbox, Kd.R_nil _ _ _ _ _, HB9.out.1.trans (hb.mono HB9.out.1.size), by rw [ho]; exact HB9.out.1.size⟩ ((hb.block gt hlt).trans HGT.out) (by omega) (fun z => (hb.block pb (Nat.lt_of_lt_of_le (blk_lt (h1 z).2) hB.size)).trans ((hB.block pb (blk_lt (h1 z).2)).trans (h1 z).2)) (fun z => by have := blk_lt (h1 z).2; have := hB.size; omega) (fun z => (h1 z).1) h2)⟩
  clear ho hbox hb HEN HRP
  go_wp2_with (first
    | (go_at_call 40
       (with_reducible refine HK.out.mono ?_)
       rintro x wj ⟨rfl, k⟩
       have K := Aside0.mk k
       clear k)
    | (go_at_call 24
       (with_reducible refine (textOf K.out aE (pw_cell_below K.out.bel HE.out) HLL.out).mono ?_)
       rintro x wl ⟨B, d, rfl, k1, k2, k3⟩
       have F := Aside0.mk (And.intro k1 (And.intro k2 k3))
       clear k1 k2 k3)
    | fail)
  go_ret2
  exact ⟨B, d, rfl, F.out.1, F.out.2.1, K.out.bel.trans (F.out.2.2.mono K.out.bel.size)⟩
end Go.Proofs.YtddnepddilbikaaDoor.ObjJ
