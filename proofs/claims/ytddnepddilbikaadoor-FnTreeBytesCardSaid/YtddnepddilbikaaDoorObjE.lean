/- object.Tag.encode. -/
import Derived.Test.YtddnepddilbikaaDoorObjD
import Derived.Test.YtddnepddilbikaaDoorQAllx12
import Derived.Laws.ResultCell
import Derived.Deep.DeepCutAuto
set_option linter.unusedVariables false
set_option linter.unusedSimpArgs false
namespace Go.Proofs.YtddnepddilbikaaDoor.ObjE
open Go.RowKit Go.Proofs.YtddnepddilbikaaDoor.QAll ObjA ObjB ObjC ObjD SrtL
open Go.Proofs.YtddnepddilbikaaDoorW.PrintWords hiding nums

/-- A tag's cells. -/
def tcells (hv tv : Nat → Int) (name nm em : ByteArray) (sec nsec z : Int) (msg pgp : ByteArray) (kind : Int) (V : Value) : Array Value :=
  #[.int .u8 (hv 0), .int .u8 (hv 1), .int .u8 (hv 2), .int .u8 (hv 3), .int .u8 (hv 4), .int .u8 (hv 5), .int .u8 (hv 6), .int .u8 (hv 7), .int .u8 (hv 8), .int .u8 (hv 9), .int .u8 (hv 10), .int .u8 (hv 11), .int .u8 (hv 12), .int .u8 (hv 13), .int .u8 (hv 14), .int .u8 (hv 15), .int .u8 (hv 16), .int .u8 (hv 17), .int .u8 (hv 18), .int .u8 (hv 19),
    .string name, .string nm, .string em, .int .i64 sec, .int .i64 nsec, .int .i64 z, .string msg, .string pgp, .int .i8 kind,
    .int .u8 (tv 0), .int .u8 (tv 1), .int .u8 (tv 2), .int .u8 (tv 3), .int .u8 (tv 4), .int .u8 (tv 5), .int .u8 (tv 6), .int .u8 (tv 7), .int .u8 (tv 8), .int .u8 (tv 9), .int .u8 (tv 10), .int .u8 (tv 11), .int .u8 (tv 12), .int .u8 (tv 13), .int .u8 (tv 14), .int .u8 (tv 15), .int .u8 (tv 16), .int .u8 (tv 17), .int .u8 (tv 18), .int .u8 (tv 19), V, V]
theorem setCell_same {W : World} {E : Nat} {t : TypeId} {fr : Nat × Nat} (h : W.heap[E]? = some (.cells #[.nilIface] t fr)) : W.setCell ⟨E, 0, none⟩ .nilIface = W := by
  have hlt := blk_lt h
  have hh : (W.setCell ⟨E, 0, none⟩ .nilIface).heap = W.heap := by
    apply Array.ext_getElem?
    intro k
    by_cases hk : k = E
    · subst hk
      rw [Lib.heap_setCell_same (i := 0) h .nilIface, h]
      rfl
    · exact Below.heap_setCell W ⟨E, 0, none⟩ .nilIface k hk
  unfold World.setCell at hh ⊢
  simp only at hh
  rw [hh]

/-- The tag's walk: the object, the result's cell, the tag. -/
structure Ta (w0 W : World) (o E g : Nat) (hv tv : Nat → Int) (name nm em : ByteArray) (sec nsec z : Int) (msg pgp : ByteArray) (kind : Int) (V : Value) (l : List Int) : Prop where
  mo : Mo w0 W o 4 l
  e : W.heap[E]? = some (.cells #[.nilIface] 63 (0, 0))
  t : W.heap[g]? = some (.cells (tcells hv tv name nm em sec nsec z msg pgp kind V) 80 (0, 0))
section
variable {w0 W : World} {o E g : Nat} {hv tv : Nat → Int} {name nm em : ByteArray} {sec nsec z : Int} {msg pgp : ByteArray} {kind : Int} {V : Value} {l : List Int}
theorem Ta.below {W' : World} (h : Ta w0 W o E g hv tv name nm em sec nsec z msg pgp kind V l) (hb : Below W.heap.size W W') : Ta w0 W' o E g hv tv name nm em sec nsec z msg pgp kind V l :=
  ⟨h.mo.below hb, (hb.block E (blk_lt h.e)).trans h.e, (hb.block g (blk_lt h.t)).trans h.t⟩
theorem Ta.kp {W' : World} {l' : List Int} (h : Ta w0 W o E g hv tv name nm em sec nsec z msg pgp kind V l) (hm : Mo w0 W' o 4 l') (hk : Kp o W W') (hE : E ≠ o) (hg : g ≠ o) : Ta w0 W' o E g hv tv name nm em sec nsec z msg pgp kind V l' :=
  ⟨hm, hk.2 E _ _ hE (by decide) h.e, hk.2 g _ _ hg (by decide) h.t⟩
theorem Ta.cells (h : Ta w0 W o E g hv tv name nm em sec nsec z msg pgp kind V l) : W.cell? ⟨g, 20, none⟩ = some (.string name) ∧ W.cell? ⟨g, 21, none⟩ = some (.string nm) ∧ W.cell? ⟨g, 22, none⟩ = some (.string em) ∧ W.cell? ⟨g, 23, none⟩ = some (.int .i64 sec) ∧ W.cell? ⟨g, 24, none⟩ = some (.int .i64 nsec) ∧ W.cell? ⟨g, 25, none⟩ = some (.int .i64 z) ∧ W.cell? ⟨g, 26, none⟩ = some (.string msg) ∧ W.cell? ⟨g, 27, none⟩ = some (.string pgp) ∧ W.cell? ⟨g, 28, none⟩ = some (.int .i8 kind) ∧ W.cell? ⟨g, 29, none⟩ = some (.int .u8 (tv 0)) ∧ W.cell? ⟨g, 30, none⟩ = some (.int .u8 (tv 1)) ∧ W.cell? ⟨g, 31, none⟩ = some (.int .u8 (tv 2)) ∧ W.cell? ⟨g, 32, none⟩ = some (.int .u8 (tv 3)) ∧ W.cell? ⟨g, 33, none⟩ = some (.int .u8 (tv 4)) ∧ W.cell? ⟨g, 34, none⟩ = some (.int .u8 (tv 5)) ∧ W.cell? ⟨g, 35, none⟩ = some (.int .u8 (tv 6)) ∧ W.cell? ⟨g, 36, none⟩ = some (.int .u8 (tv 7)) ∧ W.cell? ⟨g, 37, none⟩ = some (.int .u8 (tv 8)) ∧ W.cell? ⟨g, 38, none⟩ = some (.int .u8 (tv 9)) ∧ W.cell? ⟨g, 39, none⟩ = some (.int .u8 (tv 10)) ∧ W.cell? ⟨g, 40, none⟩ = some (.int .u8 (tv 11)) ∧ W.cell? ⟨g, 41, none⟩ = some (.int .u8 (tv 12)) ∧ W.cell? ⟨g, 42, none⟩ = some (.int .u8 (tv 13)) ∧ W.cell? ⟨g, 43, none⟩ = some (.int .u8 (tv 14)) ∧ W.cell? ⟨g, 44, none⟩ = some (.int .u8 (tv 15)) ∧ W.cell? ⟨g, 45, none⟩ = some (.int .u8 (tv 16)) ∧ W.cell? ⟨g, 46, none⟩ = some (.int .u8 (tv 17)) ∧ W.cell? ⟨g, 47, none⟩ = some (.int .u8 (tv 18)) ∧ W.cell? ⟨g, 48, none⟩ = some (.int .u8 (tv 19)) :=
  ⟨(Lib.cell_of_heap h.t 20).trans rfl, (Lib.cell_of_heap h.t 21).trans rfl, (Lib.cell_of_heap h.t 22).trans rfl, (Lib.cell_of_heap h.t 23).trans rfl, (Lib.cell_of_heap h.t 24).trans rfl, (Lib.cell_of_heap h.t 25).trans rfl, (Lib.cell_of_heap h.t 26).trans rfl, (Lib.cell_of_heap h.t 27).trans rfl, (Lib.cell_of_heap h.t 28).trans rfl, (Lib.cell_of_heap h.t 29).trans rfl, (Lib.cell_of_heap h.t 30).trans rfl, (Lib.cell_of_heap h.t 31).trans rfl, (Lib.cell_of_heap h.t 32).trans rfl, (Lib.cell_of_heap h.t 33).trans rfl, (Lib.cell_of_heap h.t 34).trans rfl, (Lib.cell_of_heap h.t 35).trans rfl, (Lib.cell_of_heap h.t 36).trans rfl, (Lib.cell_of_heap h.t 37).trans rfl, (Lib.cell_of_heap h.t 38).trans rfl, (Lib.cell_of_heap h.t 39).trans rfl, (Lib.cell_of_heap h.t 40).trans rfl, (Lib.cell_of_heap h.t 41).trans rfl, (Lib.cell_of_heap h.t 42).trans rfl, (Lib.cell_of_heap h.t 43).trans rfl, (Lib.cell_of_heap h.t 44).trans rfl, (Lib.cell_of_heap h.t 45).trans rfl, (Lib.cell_of_heap h.t 46).trans rfl, (Lib.cell_of_heap h.t 47).trans rfl, (Lib.cell_of_heap h.t 48).trans rfl⟩
theorem Ta.res (h : Ta w0 W o E g hv tv name nm em sec nsec z msg pgp kind V l) : W.cell? ⟨E, 0, none⟩ = some .nilIface ∧ W.frozen? ⟨E, 0, none⟩ = false ∧ W.setCell ⟨E, 0, none⟩ .nilIface = W :=
  ⟨(Lib.cell_of_heap h.e 0).trans rfl, Lib.frozen_of_heap h.e 0, setCell_same h.e⟩
theorem Ta.tgt (h : Ta w0 W o E g hv tv name nm em sec nsec z msg pgp kind V l) : W.rangeAt g 29 [.int .u8 (tv 0), .int .u8 (tv 1), .int .u8 (tv 2), .int .u8 (tv 3), .int .u8 (tv 4), .int .u8 (tv 5), .int .u8 (tv 6), .int .u8 (tv 7), .int .u8 (tv 8), .int .u8 (tv 9), .int .u8 (tv 10), .int .u8 (tv 11), .int .u8 (tv 12), .int .u8 (tv 13), .int .u8 (tv 14), .int .u8 (tv 15), .int .u8 (tv 16), .int .u8 (tv 17), .int .u8 (tv 18), .int .u8 (tv 19)] := by
  intro j v hj
  obtain ⟨h1, rfl⟩ := hcells_at tv j v hj
  rw [Lib.cell_of_heap h.t]
  have : ∀ j, j < 20 → (tcells hv tv name nm em sec nsec z msg pgp kind V)[29 + j]? = some (.int .u8 (tv j)) := by
    intro j hj
    iterate 20 (rcases j with _ | j; · rfl)
    omega
  exact this j h1
theorem Ta.put (h : Ta w0 W o E g hv tv name nm em sec nsec z msg pgp kind V l) (hE : E ≠ o) (hg : g ≠ o) (s : ByteArray) (hl : l.length + s.size ≤ 1000000000) :
    Calls Tryd.prog 48 #[.iface 57 (.pointer (some ⟨o, 0, none⟩)), .string s] W fun e w' => ∃ n, e = .returned (.tuple #[.int .i64 n, .nilIface]) ∧ Ta w0 w' o E g hv tv name nm em sec nsec z msg pgp kind V (l ++ nums s) :=
  (writeString h.mo s hl).mono (by
    rintro e w' ⟨rfl, k1, k2⟩
    exact ⟨_, rfl, h.kp k1 k2 hE hg⟩)
end

theorem results_cell1 {fn : Func} {p : Tmp} {ty : TypeId} (h : fn.results = #[.cell p ty]) (tmps : Array Value) (P : Program) (w : World) :
    (results fn tmps).run P w = ((asAddr (tmps.getD p undef)).run P w).andThen fun a w₁ => (loadVar ty a).run P w₁ := by
  simp only [results, h]
  simp [Sem.run_bind, Result.andThen]
theorem load63 {W : World} {a : Addr} {v : Value} (h : W.cell? a = some v) : (loadVar 63 a).run Tryd.prog W = .ok v W := by
  unfold loadVar isAgg
  simp [run_load, h]

def tObj : ByteArray := ⟨#[111, 98, 106, 101, 99, 116, 32]⟩
def tType : ByteArray := ⟨#[10, 116, 121, 112, 101, 32]⟩
def tTag : ByteArray := ⟨#[10, 116, 97, 103, 32]⟩
def tTagger : ByteArray := ⟨#[116, 97, 103, 103, 101, 114, 32]⟩
def tNl : ByteArray := ⟨#[10]⟩
/-- A tag, as it is written. -/
def tagOut (th ty name nm em : ByteArray) (sec z : Int) (msg pgp : ByteArray) : List Int :=
  [] ++ nums (tObj ++ th ++ tType ++ ty ++ tTag ++ name ++ tNl) ++ nums tTagger ++ nums (who nm em sec z) ++ nums tNl ++ nums tNl ++ nums msg ++ nums pgp

set_option maxHeartbeats 16000000 in
set_option maxRecDepth 100000 in
theorem tagEncode {w0 W : World} {o g : Nat} {hv tv : Nat → Int} {name nm em : ByteArray} {sec nsec z : Int} {msg pgp th ty : ByteArray} {kind : Int} {V : Value} (h : Mo w0 W o 0 []) (ht : W.heap[g]? = some (.cells (tcells hv tv name nm em sec nsec z msg pgp kind V) 80 (0, 0))) (hgo : g ≠ o)
    (hth : th = hexOf tv) (htr : ∀ i, i < 20 → 0 ≤ tv i ∧ tv i < 256) (hth40 : th.size = 40) (hty : plumbing_ObjectType_String.f kind = some ty)
    (hs0 : 62135596800 ≤ sec) (hs1 : sec ≤ 10000000000000) (hz : z.tmod 60 = 0) (h0 : -360000 < z) (h1 : z < 360000)
    (hl : (tagOut th ty name nm em sec z msg pgp).length ≤ 900000000) (htab : ∀ W1, Below w0.heap.size w0 W1 → Lib.TabIs Tryd.prog W1 "internal/strconv.uint64pow10" .u64 Lib.pow10Tab) :
    Calls Tryd.prog 56 #[.pointer (some ⟨g, 0, none⟩), .iface 57 (.pointer (some ⟨o, 0, none⟩)), .bool true] W fun e w' => e = .returned .nilIface ∧ Mo w0 w' o 4 (tagOut th ty name nm em sec z msg pgp) := by
  unfold tagOut at hl ⊢
  generalize hT1 : tObj ++ th ++ tType ++ ty ++ tTag ++ name ++ tNl = T1 at hl ⊢
  have sz1 : 7 + 40 + 6 + ty.size + 5 + name.size + 1 = T1.size := by
    rw [← hT1]
    simp only [ByteArray.size_append, hth40]
    rfl
  generalize hE : W.heap.size = E
  have hoE : E ≠ o := by have := h.lt; omega
  have hTA0 : ∀ W', Mo w0 W' o 4 [] → Kp o (W.alloc (.cells #[.nilIface] 63 (0, 0))) W' → Ta w0 W' o E g hv tv name nm em sec nsec z msg pgp kind V [] := fun W' hm hk =>
    ⟨hm, hk.2 E _ _ hoE (by decide) (by rw [← hE]; exact blk_new W _), hk.2 g _ _ hgo (by decide) ((Below.heap_alloc W _ g (blk_lt ht)).trans ht)⟩
  have HTA0 := Aside0.mk hTA0
  simp only [List.length_append, nums_len, List.length_nil] at hl
  have P1 : Aside0 (∀ W1, Ta w0 W1 o E g hv tv name nm em sec nsec z msg pgp kind V ([]) → Calls Tryd.prog 48 #[.iface 57 (.pointer (some ⟨o, 0, none⟩)), .string ({ data := #[111, 98, 106, 101, 99, 116, 32] } ++ th ++ { data := #[10, 116, 121, 112, 101, 32] } ++ ty ++ { data := #[10, 116, 97, 103, 32] } ++ name ++ { data := #[10] } : ByteArray)] W1 fun e w' => ∃ n, e = .returned (.tuple #[.int .i64 n, .nilIface]) ∧ Ta w0 w' o E g hv tv name nm em sec nsec z msg pgp kind V ([] ++ nums T1)) :=
    ⟨fun W1 h => by have q := h.put hoE hgo T1 (by simp only [List.length_append, nums_len, List.length_nil]; omega); rw [← hT1] at q ⊢; exact q⟩
  have P2 : Aside0 (∀ W1, Ta w0 W1 o E g hv tv name nm em sec nsec z msg pgp kind V ([] ++ nums T1) → Calls Tryd.prog 48 #[.iface 57 (.pointer (some ⟨o, 0, none⟩)), .string ⟨#[116, 97, 103, 103, 101, 114, 32]⟩] W1 fun e w' => ∃ n, e = .returned (.tuple #[.int .i64 n, .nilIface]) ∧ Ta w0 w' o E g hv tv name nm em sec nsec z msg pgp kind V ([] ++ nums T1 ++ nums tTagger)) :=
    ⟨fun W1 h => by have q := h.put hoE hgo tTagger (by simp only [List.length_append, nums_len, List.length_nil]; omega); exact q⟩
  have P4 : Aside0 (∀ W1, Ta w0 W1 o E g hv tv name nm em sec nsec z msg pgp kind V ([] ++ nums T1 ++ nums tTagger ++ nums (who nm em sec z)) → Calls Tryd.prog 48 #[.iface 57 (.pointer (some ⟨o, 0, none⟩)), .string ⟨#[10]⟩] W1 fun e w' => ∃ n, e = .returned (.tuple #[.int .i64 n, .nilIface]) ∧ Ta w0 w' o E g hv tv name nm em sec nsec z msg pgp kind V ([] ++ nums T1 ++ nums tTagger ++ nums (who nm em sec z) ++ nums tNl)) :=
    ⟨fun W1 h => by have q := h.put hoE hgo tNl (by simp only [List.length_append, nums_len, List.length_nil]; omega); exact q⟩
  have P5 : Aside0 (∀ W1, Ta w0 W1 o E g hv tv name nm em sec nsec z msg pgp kind V ([] ++ nums T1 ++ nums tTagger ++ nums (who nm em sec z) ++ nums tNl) → Calls Tryd.prog 48 #[.iface 57 (.pointer (some ⟨o, 0, none⟩)), .string ⟨#[10]⟩] W1 fun e w' => ∃ n, e = .returned (.tuple #[.int .i64 n, .nilIface]) ∧ Ta w0 w' o E g hv tv name nm em sec nsec z msg pgp kind V ([] ++ nums T1 ++ nums tTagger ++ nums (who nm em sec z) ++ nums tNl ++ nums tNl)) :=
    ⟨fun W1 h => by have q := h.put hoE hgo tNl (by simp only [List.length_append, nums_len, List.length_nil]; omega); exact q⟩
  have P6 : Aside0 (∀ W1, Ta w0 W1 o E g hv tv name nm em sec nsec z msg pgp kind V ([] ++ nums T1 ++ nums tTagger ++ nums (who nm em sec z) ++ nums tNl ++ nums tNl) → Calls Tryd.prog 48 #[.iface 57 (.pointer (some ⟨o, 0, none⟩)), .string msg] W1 fun e w' => ∃ n, e = .returned (.tuple #[.int .i64 n, .nilIface]) ∧ Ta w0 w' o E g hv tv name nm em sec nsec z msg pgp kind V ([] ++ nums T1 ++ nums tTagger ++ nums (who nm em sec z) ++ nums tNl ++ nums tNl ++ nums msg)) :=
    ⟨fun W1 h => by have q := h.put hoE hgo msg (by simp only [List.length_append, nums_len, List.length_nil]; omega); exact q⟩
  have P7 : Aside0 (∀ W1, Ta w0 W1 o E g hv tv name nm em sec nsec z msg pgp kind V ([] ++ nums T1 ++ nums tTagger ++ nums (who nm em sec z) ++ nums tNl ++ nums tNl ++ nums msg) → Calls Tryd.prog 48 #[.iface 57 (.pointer (some ⟨o, 0, none⟩)), .string pgp] W1 fun e w' => ∃ n, e = .returned (.tuple #[.int .i64 n, .nilIface]) ∧ Ta w0 w' o E g hv tv name nm em sec nsec z msg pgp kind V ([] ++ nums T1 ++ nums tTagger ++ nums (who nm em sec z) ++ nums tNl ++ nums tNl ++ nums msg ++ nums pgp)) :=
    ⟨fun W1 h => by have q := h.put hoE hgo pgp (by simp only [List.length_append, nums_len, List.length_nil]; omega); exact q⟩
  have P3 : Aside0 (∀ W1, Ta w0 W1 o E g hv tv name nm em sec nsec z msg pgp kind V ([] ++ nums T1 ++ nums tTagger) → Calls Tryd.prog 67 #[.pointer (some ⟨g, 21, none⟩), .iface 57 (.pointer (some ⟨o, 0, none⟩))] W1 fun e w' => e = .returned .nilIface ∧ Ta w0 w' o E g hv tv name nm em sec nsec z msg pgp kind V ([] ++ nums T1 ++ nums tTagger ++ nums (who nm em sec z))) :=
    ⟨fun W1 h => (encodeWho h.mo h.t hgo (by decide) ⟨(Lib.cell_of_heap h.t 21).trans rfl, (Lib.cell_of_heap h.t 22).trans rfl, (Lib.cell_of_heap h.t 23).trans rfl, (Lib.cell_of_heap h.t 24).trans rfl, (Lib.cell_of_heap h.t 25).trans rfl⟩ hs0 hs1 hz h0 h1 (by simp only [List.length_append, nums_len, List.length_nil]; omega) htab).mono (by
      rintro e w' ⟨rfl, k1, k2⟩
      exact ⟨rfl, h.kp k1 k2 hoE hgo⟩)⟩
  have hzs : object_isZeroSignature.f nm em sec nsec z = some false := by
    have hn : ¬ sec = 0 := by omega
    unfold object_isZeroSignature.f zztime_Time_IsZero.f
    rw [if_neg hn]
    split
    · split <;> rfl
    · rfl
  have PZ : Aside0 (∀ W1, Ta w0 W1 o E g hv tv name nm em sec nsec z msg pgp kind V ([] ++ nums T1) → Calls Tryd.prog 66 #[.agg #[.string nm, .string em, .int .i64 sec, .int .i64 nsec, .int .i64 z]] W1 fun e w' => e = .returned (.bool false) ∧ Ta w0 w' o E g hv tv name nm em sec nsec z msg pgp kind V ([] ++ nums T1)) :=
    ⟨fun W1 h => (object_isZeroSignature.calls nm em sec nsec z false W1 hzs).mono (by
      rintro e w' ⟨rfl, k⟩
      exact ⟨rfl, h.below k⟩)⟩
  have PH : Aside0 (∀ W1, Ta w0 W1 o E g hv tv name nm em sec nsec z msg pgp kind V [] → Calls Tryd.prog 64 #[.agg #[.int .u8 (tv 0), .int .u8 (tv 1), .int .u8 (tv 2), .int .u8 (tv 3), .int .u8 (tv 4), .int .u8 (tv 5), .int .u8 (tv 6), .int .u8 (tv 7), .int .u8 (tv 8), .int .u8 (tv 9), .int .u8 (tv 10), .int .u8 (tv 11), .int .u8 (tv 12), .int .u8 (tv 13), .int .u8 (tv 14), .int .u8 (tv 15), .int .u8 (tv 16), .int .u8 (tv 17), .int .u8 (tv 18), .int .u8 (tv 19)]] W1 fun e w' => e = .returned (.string th) ∧ Ta w0 w' o E g hv tv name nm em sec nsec z msg pgp kind V []) :=
    ⟨fun W1 h => (hashString tv th hth htr W1).mono (by
      rintro e w' ⟨rfl, k⟩
      exact ⟨rfl, h.below k⟩)⟩
  have PT : Aside0 (∀ W1, Ta w0 W1 o E g hv tv name nm em sec nsec z msg pgp kind V [] → Calls Tryd.prog 65 #[.int .i8 kind] W1 fun e w' => e = .returned (.string ty) ∧ Ta w0 w' o E g hv tv name nm em sec nsec z msg pgp kind V []) :=
    ⟨fun W1 h => (plumbing_ObjectType_String.calls kind ty W1 hty).mono (by
      rintro e w' ⟨rfl, k⟩
      exact ⟨rfl, h.below k.below⟩)⟩
  have hB0 := Below.alloc (Below.refl W.heap.size W) (Nat.le_refl _) (.cells #[.nilIface] 63 (0, 0))
  have PS : Aside0 (Calls Tryd.prog 129 #[.pointer (some ⟨o, 0, none⟩), .int .i8 4] (W.alloc (.cells #[.nilIface] 63 (0, 0))) fun e w' => e = .returned (.tuple #[]) ∧ Ta w0 w' o E g hv tv name nm em sec nsec z msg pgp kind V []) :=
    ⟨(setType (h.below hB0) 4).mono (by
      rintro e w' ⟨rfl, k1, k2⟩
      exact ⟨rfl, hTA0 w' k1 k2⟩)⟩
  have PW : Aside0 (∀ W1, Ta w0 W1 o E g hv tv name nm em sec nsec z msg pgp kind V [] → Calls Tryd.prog 131 #[.pointer (some ⟨o, 0, none⟩)] W1 fun e w' => e = .returned (.tuple #[.iface 57 (.pointer (some ⟨o, 0, none⟩)), .nilIface]) ∧ w' = W1) :=
    ⟨fun W1 h => writer o W1⟩
  have hmw := fun g W => mSetType 328/-FUEL-/ g W
  have hmv := fun g W => mWriter 328/-FUEL-/ g W
  have z1 : ty.size ≤ 1000000000 := by omega
  have z2 : name.size ≤ 1000000000 := by omega
  have z5 : ¬ 9223372036854775807 < 53 + ty.size := by omega
  have z6 : ¬ 9223372036854775807 < 53 + ty.size + 5 := by omega
  have z7 : ¬ 9223372036854775807 < 53 + ty.size + 5 + name.size := by omega
  have z8 : ¬ 9223372036854775807 < 53 + ty.size + 5 + name.size + 1 := by omega
  clear h ht hth htr hty hs0 hs1 hz h0 h1 hl htab hTA0 HTA0 sz1 hT1 hzs hB0
  go_enter_defers Tryd.func56, Tryd.ntmps56
  go_upto_region 6 with (first
    | (go_at_call 129
       (refine PS.out.mono ?_)
       rintro x w0' ⟨rfl, k⟩
       have TA0 := Aside0.mk k
       obtain ⟨c20, c21, c22, c23, c24, c25, c26, c27, c28, c29, c30, c31, c32, c33, c34, c35, c36, c37, c38, c39, c40, c41, c42, c43, c44, c45, c46, c47, c48⟩ := k.cells
       obtain ⟨e0, e1, e2⟩ := k.res
       clear k)
    | (go_at_call 131
       (refine (PW.out _ TA0.out).mono ?_)
       rintro x w1' ⟨rfl, rfl⟩)
    | fail)
  go_cut [] from 8 to 43 (fun wx => Ta w0 wx o E g hv tv name nm em sec nsec z msg pgp kind V ([] ++ nums T1))
  case first =>
    have TAd := Aside0.mk (TA0.out.below (Below.refl _ _).drew)
    clear PS PW
    have u51 := Tryd.underlying51
    have i51 : (Tryd.prog.info? 51).map (·.size) = some ([.int .u8 (tv 0), .int .u8 (tv 1), .int .u8 (tv 2), .int .u8 (tv 3), .int .u8 (tv 4), .int .u8 (tv 5), .int .u8 (tv 6), .int .u8 (tv 7), .int .u8 (tv 8), .int .u8 (tv 9), .int .u8 (tv 10), .int .u8 (tv 11), .int .u8 (tv 12), .int .u8 (tv 13), .int .u8 (tv 14), .int .u8 (tv 15), .int .u8 (tv 16), .int .u8 (tv 17), .int .u8 (tv 18), .int .u8 (tv 19)] : List Value).length := info41
    have r0 := TAd.out.tgt
    go_region_held3 (fun w' => w'.rangeAt g 29 [.int .u8 (tv 0), .int .u8 (tv 1), .int .u8 (tv 2), .int .u8 (tv 3), .int .u8 (tv 4), .int .u8 (tv 5), .int .u8 (tv 6), .int .u8 (tv 7), .int .u8 (tv 8), .int .u8 (tv 9), .int .u8 (tv 10), .int .u8 (tv 11), .int .u8 (tv 12), .int .u8 (tv 13), .int .u8 (tv 14), .int .u8 (tv 15), .int .u8 (tv 16), .int .u8 (tv 17), .int .u8 (tv 18), .int .u8 (tv 19)] ∧ w'.cell? ⟨g, 20, none⟩ = some (.string name) ∧ w'.cell? ⟨g, 28, none⟩ = some (.int .i8 kind)) (go_keep) (first
      | (go_at_call 64
         (refine (PH.out _ TAd.out).mono ?_)
         rintro x wa ⟨rfl, k⟩
         have TAwa := Aside0.mk k
         obtain ⟨c20, -, -, -, -, -, -, -, c28, -⟩ := k.cells
         have r1 := k.tgt
         obtain ⟨e0, e1, e2⟩ := k.res
         clear k)
      | (go_at_call 65
         (refine (PT.out _ TAwa.out).mono ?_)
         rintro x wb ⟨rfl, k⟩
         have TAwb := Aside0.mk k
         obtain ⟨c20, -, -, -, -, -, -, -, c28, -⟩ := k.cells
         have r1 := k.tgt
         obtain ⟨e0, e1, e2⟩ := k.res
         clear k)
      | (go_at_call 48
         (refine (P1.out _ TAwb.out).mono ?_)
         rintro x w1 ⟨n1, rfl, k⟩
         have TAw1 := Aside0.mk k
         obtain ⟨c20, -, -, -, -, -, -, -, c28, -⟩ := k.cells
         have r1 := k.tgt
         obtain ⟨e0, e1, e2⟩ := k.res
         clear k)
      )
    go_wp2_with fail
    go_meet
    exact TAw1.out
  case rest =>
    have TA1 := Aside0.mk hcut
    obtain ⟨-, c21, c22, c23, c24, c25, -⟩ := hcut.cells
    obtain ⟨e0, e1, e2⟩ := hcut.res
    clear hcut PH PT PS PW P1 TA0 c20 c26 c27 c28 c29 c30 c31 c32 c33 c34 c35 c36 c37 c38 c39 c40 c41 c42 c43 c44 c45 c46 c47 c48
    go_wp2_with (first
    | (go_at_call 66
       (with_reducible refine (PZ.out _ TA1.out).mono ?_)
       rintro x wTA2 ⟨rfl, k⟩
       have TA2 := Aside0.mk k
       obtain ⟨-, c21, c22, c23, c24, c25, c26, c27, -⟩ := k.cells
       obtain ⟨e0, e1, e2⟩ := k.res
       clear k PZ)
    | (go_at_call 48
       (with_reducible refine (P2.out _ TA2.out).mono ?_)
       rintro x wTA3 ⟨n3, rfl, k⟩
       have TA3 := Aside0.mk k
       obtain ⟨-, c21, c22, c23, c24, c25, c26, c27, -⟩ := k.cells
       obtain ⟨e0, e1, e2⟩ := k.res
       clear k P2)
    | (go_at_call 67
       (with_reducible refine (P3.out _ TA3.out).mono ?_)
       rintro x wTA4 ⟨rfl, k⟩
       have TA4 := Aside0.mk k
       obtain ⟨-, c21, c22, c23, c24, c25, c26, c27, -⟩ := k.cells
       obtain ⟨e0, e1, e2⟩ := k.res
       clear k P3)
    | (go_at_call 48
       (with_reducible refine (P4.out _ TA4.out).mono ?_)
       rintro x wTA5 ⟨n5, rfl, k⟩
       have TA5 := Aside0.mk k
       obtain ⟨-, c21, c22, c23, c24, c25, c26, c27, -⟩ := k.cells
       obtain ⟨e0, e1, e2⟩ := k.res
       clear k P4)
    | (go_at_call 48
       (with_reducible refine (P5.out _ TA5.out).mono ?_)
       rintro x wTA6 ⟨n6, rfl, k⟩
       have TA6 := Aside0.mk k
       obtain ⟨-, c21, c22, c23, c24, c25, c26, c27, -⟩ := k.cells
       obtain ⟨e0, e1, e2⟩ := k.res
       clear k P5)
    | (go_at_call 48
       (with_reducible refine (P6.out _ TA6.out).mono ?_)
       rintro x wTA7 ⟨n7, rfl, k⟩
       have TA7 := Aside0.mk k
       obtain ⟨-, c21, c22, c23, c24, c25, c26, c27, -⟩ := k.cells
       obtain ⟨e0, e1, e2⟩ := k.res
       clear k P6)
    | (go_at_call 48
       (with_reducible refine (P7.out _ TA7.out).mono ?_)
       rintro x wTA8 ⟨n8, rfl, k⟩
       have TA8 := Aside0.mk k
       obtain ⟨-, c21, c22, c23, c24, c25, c26, c27, -⟩ := k.cells
       obtain ⟨e0, e1, e2⟩ := k.res
       clear k P7)
    | fail)
    refine leaves_cons (f := 44) (args := #[.iface 57 (.pointer (some ⟨o, 0, none⟩)), .pointer (some ⟨E, 0, none⟩)]) (by simp) (enters_of Tryd.func44 (by kernel_rfl) rfl _ _) ?_
    refine (checkClose o ⟨E, 0, none⟩ _ _).mono ?_
    rintro e u' wz ⟨rfl, rfl, rfl⟩
    refine ⟨.nilIface, ?_, rfl, TA8.out.mo⟩
    rw [results_cell1 (p := 6) (ty := 63) rfl]
    show (Result.ok (⟨E, 0, none⟩ : Addr) _).andThen _ = _
    exact load63 TA8.out.res.1
set_option maxHeartbeats 16000000 in
set_option maxRecDepth 100000 in
theorem tagEncode2 {w0 W : World} {o g : Nat} {hv tv : Nat → Int} {name nm em : ByteArray} {sec nsec z : Int} {msg pgp th ty : ByteArray} {kind : Int} {V : Value} (h : Mo w0 W o 0 []) (ht : W.heap[g]? = some (.cells (tcells hv tv name nm em sec nsec z msg pgp kind V) 80 (0, 0))) (hgo : g ≠ o)
    (hth : th = hexOf tv) (htr : ∀ i, i < 20 → 0 ≤ tv i ∧ tv i < 256) (hth40 : th.size = 40) (hty : plumbing_ObjectType_String.f kind = some ty)
    (hs0 : 62135596800 ≤ sec) (hs1 : sec ≤ 10000000000000) (hz : z.tmod 60 = 0) (h0 : -360000 < z) (h1 : z < 360000)
    (hl : (tagOut th ty name nm em sec z msg pgp).length ≤ 900000000) (htab : ∀ W1, Below w0.heap.size w0 W1 → Lib.TabIs Tryd.prog W1 "internal/strconv.uint64pow10" .u64 Lib.pow10Tab) :
    Calls Tryd.prog 34 #[.pointer (some ⟨g, 0, none⟩), .iface 57 (.pointer (some ⟨o, 0, none⟩))] W fun e w' => e = .returned .nilIface ∧ Mo w0 w' o 4 (tagOut th ty name nm em sec z msg pgp) := by
  have HT := Aside0.mk (tagEncode h ht hgo hth htr hth40 hty hs0 hs1 hz h0 h1 hl htab)
  clear h ht hgo hth htr hth40 hty hs0 hs1 hz h0 h1 hl htab
  go_enter Tryd.func34, Tryd.ntmps34
  go_wp2_with (first
    | (go_at_call 56
       (with_reducible refine HT.out.mono ?_)
       rintro x w1 ⟨rfl, k⟩
       have K := Aside0.mk k
       clear k)
    | fail)
  go_ret
  exact ⟨rfl, K.out⟩
end Go.Proofs.YtddnepddilbikaaDoor.ObjE
