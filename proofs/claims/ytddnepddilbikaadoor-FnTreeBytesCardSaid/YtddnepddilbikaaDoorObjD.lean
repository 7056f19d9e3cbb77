/- object.Signature.Encode. -/
import Derived.Test.YtddnepddilbikaaDoorObjC
import Derived.Deep.RegionWith
import Derived.StillTailTactics
import Derived.Deep.RegionHeld3
set_option linter.unusedVariables false
set_option linter.unusedSimpArgs false
namespace Go.Proofs.YtddnepddilbikaaDoor.ObjD
open Go.RowKit Go.Proofs.YtddnepddilbikaaDoor.QAll ObjA ObjB ObjC
open Go.Proofs.YtddnepddilbikaaDoorW.PrintWords hiding nums

theorem bcell {w w' : World} (h : Below w.heap.size w w') {a : Addr} {v : Value} (hc : w.cell? a = some v) : w'.cell? a = some v := (h.cell (World.block_lt_of_cell? w a hc)).trans hc
/-- A signature in a struct: its cells from the place i on. -/
structure Sg (W : World) (g i : Nat) (nm em : ByteArray) (sec nsec z : Int) : Prop where
  n : W.cell? ⟨g, i, none⟩ = some (.string nm)
  e : W.cell? ⟨g, i + 1, none⟩ = some (.string em)
  s : W.cell? ⟨g, i + 2, none⟩ = some (.int .i64 sec)
  ns : W.cell? ⟨g, i + 3, none⟩ = some (.int .i64 nsec)
  z : W.cell? ⟨g, i + 4, none⟩ = some (.int .i64 z)
theorem Sg.blk {W W' : World} {g i : Nat} {nm em : ByteArray} {sec nsec z : Int} (h : Sg W g i nm em sec nsec z) (hb : W'.heap[g]? = W.heap[g]?) : Sg W' g i nm em sec nsec z :=
  ⟨(World.cell?_of_block hb).trans h.n, (World.cell?_of_block hb).trans h.e, (World.cell?_of_block hb).trans h.s, (World.cell?_of_block hb).trans h.ns, (World.cell?_of_block hb).trans h.z⟩
/-- Who it is, as it is written. -/
def who (nm em : ByteArray) (sec z : Int) : ByteArray := nm ++ ⟨#[32, 60]⟩ ++ em ++ ⟨#[62, 32]⟩ ++ (dn (sec - 62135596800) ++ (⟨#[32]⟩ : ByteArray) ++ zt z)

set_option maxHeartbeats 8000000 in
set_option maxRecDepth 100000 in
theorem encodeTime {w0 W : World} {o g i : Nat} {ty : Int} {l : List Int} {nm em : ByteArray} {sec nsec z : Int} (h : Mo w0 W o ty l) (hs : Sg W g i nm em sec nsec z) (hs0 : 62135596800 ≤ sec) (hs1 : sec ≤ 10000000000000) (hz : z.tmod 60 = 0) (h0 : -360000 < z) (h1 : z < 360000) (hl : l.length + (dn (sec - 62135596800) ++ (⟨#[32]⟩ : ByteArray) ++ zt z).size ≤ 1000000000) (htab : ∀ W1, Below w0.heap.size w0 W1 → Lib.TabIs Tryd.prog W1 "internal/strconv.uint64pow10" .u64 Lib.pow10Tab) :
    Calls Tryd.prog 81 #[.pointer (some ⟨g, i, none⟩), .iface 57 (.pointer (some ⟨o, 0, none⟩))] W fun e w' => e = .returned .nilIface ∧ Mo w0 w' o ty (l ++ nums (dn (sec - 62135596800) ++ (⟨#[32]⟩ : ByteArray) ++ zt z)) ∧ Kp o W w' := by
  have HU : Aside0 (∀ W, Calls Tryd.prog 94 #[.agg #[.int .i64 sec, .int .i64 nsec, .int .i64 z]] W fun e w' => e = .returned (.int .i64 (sec - 62135596800)) ∧ Below W.heap.size W w') := ⟨fun W => unix sec nsec z (by omega) hs1 W⟩
  have hu0 : 0 ≤ sec - 62135596800 := by omega
  have hu1 : sec - 62135596800 ≤ 10000000000000 := by omega
  clear hs0 hs1
  generalize sec - 62135596800 = u at *
  have d0 : decide (u < 0) = false := decide_eq_false (by omega)
  have HB0 := Aside0.mk h.bel
  have HF : Aside0 (∀ W1, Below W.heap.size W W1 → Calls Tryd.prog 95 #[.int .i64 u, .int .i64 10] W1 fun e w' => e = .returned (.string (dn u)) ∧ Below W.heap.size W w') := ⟨fun W1 hb => (formatInt u hu0 (by omega) W1 (htab W1 (h.bel.trans (hb.mono h.bel.size)))).mono (by
    rintro e w' ⟨rfl, hb'⟩
    exact ⟨rfl, hb.trans (hb'.mono hb.size)⟩)⟩
  have HT : Aside0 (∀ W1, Below W.heap.size W W1 → Calls Tryd.prog 96 #[.agg #[.int .i64 sec, .int .i64 nsec, .int .i64 z], .string ⟨#[45, 48, 55, 48, 48]⟩] W1 fun e w' => e = .returned (.string (zt z)) ∧ Below W.heap.size W w') := ⟨fun W1 hb => (format sec nsec z hz h0 h1 W1).mono (by
    rintro e w' ⟨rfl, hb'⟩
    exact ⟨rfl, hb.trans (hb'.mono hb.size)⟩)⟩
  have hz1 : (dn u).size ≤ 1000000000 := by
    rw [ByteArray.size_append, ByteArray.size_append] at hl
    omega
  have hz2 : (zt z).size ≤ 1000000000 := by
    rw [ByteArray.size_append] at hl
    omega
  have hz3 : (dn u).size + 1 + (zt z).size ≤ 1000000000 := by
    rw [ByteArray.size_append, ByteArray.size_append] at hl
    have : (⟨#[32]⟩ : ByteArray).size = 1 := rfl
    omega
  have HW : Aside0 (∀ W1, Below W.heap.size W W1 → Calls Tryd.prog 48 #[.iface 57 (.pointer (some ⟨o, 0, none⟩)), .string (dn u ++ (⟨#[32]⟩ : ByteArray) ++ zt z)] W1 fun e w' => ∃ n, e = .returned (.tuple #[.int .i64 n, .nilIface]) ∧ Mo w0 w' o ty (l ++ nums (dn u ++ (⟨#[32]⟩ : ByteArray) ++ zt z)) ∧ Kp o W w') := ⟨fun W1 hb => (writeString (h.below hb) _ hl).mono (by
    rintro e w' ⟨rfl, k1, k2⟩
    exact ⟨_, rfl, k1, (Kp.below hb).trans k2⟩)⟩
  have HS : Aside0 (∀ W1, Below W.heap.size W W1 → W1.cell? ⟨g, i + 2, none⟩ = some (.int .i64 sec) ∧ W1.cell? ⟨g, i + 3, none⟩ = some (.int .i64 nsec) ∧ W1.cell? ⟨g, i + 4, none⟩ = some (.int .i64 z)) := ⟨fun W1 hb => ⟨bcell hb hs.s, bcell hb hs.ns, bcell hb hs.z⟩⟩
  obtain ⟨c1, c2, c3⟩ := HS.out W (Below.refl _ _)
  clear h hl htab hs hz h0 h1 hu0 hu1
  generalize dn u = D at *
  generalize zt z = Z at *
  go_enter Tryd.func81, Tryd.ntmps81
  go_wp2_with (first
    | (go_at_call 94
       (with_reducible refine (HU.out _).mono ?_)
       rintro x w1 ⟨rfl, hb1⟩
       have HB1 := Aside0.mk hb1
       obtain ⟨c1', c2', c3'⟩ := HS.out w1 hb1
       clear hb1)
    | fail)
  go_region_with (first
    | (go_at_call 95
       (with_reducible refine (HF.out _ ?b).mono ?_)
       (case b => first | exact HB3.out | exact HB2.out | exact HB2.out.drew | exact HB3.out.drew | exact HB1.out | exact HB1.out.drew)
       rintro x w2 ⟨rfl, hb2⟩
       have HB2 := Aside0.mk hb2
       obtain ⟨c1'', c2'', c3''⟩ := HS.out w2 hb2
       clear hb2)
    | (go_at_call 96
       (with_reducible refine (HT.out _ ?b).mono ?_)
       (case b => first | exact HB3.out | exact HB2.out | exact HB2.out.drew | exact HB3.out.drew | exact HB1.out | exact HB1.out.drew)
       rintro x w3 ⟨rfl, hb3⟩
       have HB3 := Aside0.mk hb3
       obtain ⟨c1'', c2'', c3''⟩ := HS.out w3 hb3
       clear hb3)
    | (go_at_call 48
       (with_reducible refine (HW.out _ ?b).mono ?_)
       (case b => first | exact HB3.out | exact HB2.out | exact HB2.out.drew | exact HB3.out.drew | exact HB1.out | exact HB1.out.drew)
       rintro x w4 ⟨n, rfl, k1, k2⟩
       have K1 := Aside0.mk k1
       have K2 := Aside0.mk k2
       clear k1 k2)
    | fail)
  all_goals (go_wp2; go_ret; exact ⟨rfl, K1.out, K2.out⟩)

/-- Who it is, ahead of the time. -/
def who0 (nm em : ByteArray) : ByteArray := nm ++ ⟨#[32, 60]⟩ ++ em ++ ⟨#[62, 32]⟩
theorem who_eq (nm em : ByteArray) (sec z : Int) : who nm em sec z = who0 nm em ++ (dn (sec - 62135596800) ++ (⟨#[32]⟩ : ByteArray) ++ zt z) := rfl
set_option maxHeartbeats 8000000 in
set_option maxRecDepth 100000 in
theorem encodeWho {w0 W : World} {o g i : Nat} {ty : Int} {l : List Int} {nm em : ByteArray} {sec nsec z : Int} {cs : Array Value} {t : TypeId} (h : Mo w0 W o ty l) (hr : W.heap[g]? = some (.cells cs t (0, 0))) (hgo : g ≠ o) (ht : t ≠ 5) (hs : Sg W g i nm em sec nsec z) (hs0 : 62135596800 ≤ sec) (hs1 : sec ≤ 10000000000000) (hz : z.tmod 60 = 0) (h0 : -360000 < z) (h1 : z < 360000) (hl : l.length + (who nm em sec z).size ≤ 1000000000) (htab : ∀ W1, Below w0.heap.size w0 W1 → Lib.TabIs Tryd.prog W1 "internal/strconv.uint64pow10" .u64 Lib.pow10Tab) :
    Calls Tryd.prog 67 #[.pointer (some ⟨g, i, none⟩), .iface 57 (.pointer (some ⟨o, 0, none⟩))] W fun e w' => e = .returned .nilIface ∧ Mo w0 w' o ty (l ++ nums (who nm em sec z)) ∧ Kp o W w' := by
  have hlen : l.length + (who0 nm em).size + (dn (sec - 62135596800) ++ (⟨#[32]⟩ : ByteArray) ++ zt z).size ≤ 1000000000 := by rw [who_eq, ByteArray.size_append] at hl; omega
  have hsz : nm.size + 2 + em.size + 2 = (who0 nm em).size := by
    unfold who0
    rw [ByteArray.size_append, ByteArray.size_append, ByteArray.size_append]
    rfl
  have hz1 : nm.size ≤ 1000000000 := by omega
  have hz2 : em.size ≤ 1000000000 := by omega
  have hz3 : nm.size + 2 + em.size + 2 ≤ 1000000000 := by omega
  have HW : Aside0 (∀ W1, Below W.heap.size W W1 → Calls Tryd.prog 48 #[.iface 57 (.pointer (some ⟨o, 0, none⟩)), .string (nm ++ ⟨#[32, 60]⟩ ++ em ++ ⟨#[62, 32]⟩)] W1 fun e w' => ∃ n, e = .returned (.tuple #[.int .i64 n, .nilIface]) ∧ Mo w0 w' o ty (l ++ nums (who0 nm em)) ∧ Kp o W w') := ⟨fun W1 hb => (writeString (h.below hb) (who0 nm em) (by omega)).mono (by
    rintro e w' ⟨rfl, k1, k2⟩
    exact ⟨_, rfl, k1, (Kp.below hb).trans k2⟩)⟩
  have HT : Aside0 (∀ W1, Mo w0 W1 o ty (l ++ nums (who0 nm em)) → Kp o W W1 → Calls Tryd.prog 81 #[.pointer (some ⟨g, i, none⟩), .iface 57 (.pointer (some ⟨o, 0, none⟩))] W1 fun e w' => e = .returned .nilIface ∧ Mo w0 w' o ty (l ++ nums (who nm em sec z)) ∧ Kp o W w') := ⟨fun W1 k1 k2 => (encodeTime k1 (hs.blk ((k2.2 g cs t hgo ht hr).trans hr.symm)) hs0 hs1 hz h0 h1 (by rw [List.length_append, nums_len]; omega) htab).mono (by
    rintro e w' ⟨rfl, k3, k4⟩
    refine ⟨rfl, ?_, k2.trans k4⟩
    rw [who_eq, ObjA.nums_append, ← List.append_assoc]
    exact k3)⟩
  have c1 := hs.n
  have c2 := hs.e
  clear h hr hgo ht hs hs0 hs1 hz h0 h1 hl htab hlen hsz
  go_enter Tryd.func67, Tryd.ntmps67
  go_wp2
  have HW2 := Aside0.mk (HW.out W.drew (Below.refl _ _).drew)
  go_region_with (first
    | (go_at_call 48
       (refine HW2.out.mono ?_)
       rintro x w1 ⟨n, rfl, k1, k2⟩
       have K1 := Aside0.mk k1
       have K2 := Aside0.mk k2
       clear k1 k2)
    | fail)
  all_goals
    go_wp2_with (first
      | (go_at_call 81
         (with_reducible refine (HT.out _ K1.out K2.out).mono ?_)
         rintro x w2 ⟨rfl, k1, k2⟩
         have K3 := Aside0.mk k1
         have K4 := Aside0.mk k2
         clear k1 k2)
      | fail)
    go_ret
    exact ⟨rfl, K3.out, K4.out⟩
end Go.Proofs.YtddnepddilbikaaDoor.ObjD
