/- Arguments opened: out of a reading of the form ('DataW.trod') a reading in the print's words ('Kd.K'), by the type's shape, with the sizes that the row's weights allow. For any program. -/
import Derived.Test.YtddnepddilbikaaDoorWWords
import Derived.ChangeArms
import Derived.SizedLaws
import Derived.WideShapes
set_option linter.unusedVariables false
namespace Go.Proofs.YtddnepddilbikaaDoor.Open
open Go.RowKit Go.Proofs.YtddnepddilbikaaDoorW.PrintWords

/-- A value of type t that reads as data reads as a K, and B holds of it (sizes). -/
structure Opn (P : Program) (t : TypeId) {α : Type} (K : Kd α) (B : α → Prop) : Prop where
  cells : P.cellsOf t = K.sz
  opn : ∀ {H : Type} {enc : TypeId × Value → H} {w : World} {base : Nat} {sp : Nat → Bool} {held : Bool} {fuel : Nat} {cs : List Value} {x : DataW H × List MemPlace},
    DataW.trod enc P w base sp held fuel t cs = some x → (∀ n ∈ x.1.weights P t, n ≤ reachBytes) → ∃ a, K.K w a cs ∧ B a

theorem Opn.imp {P : Program} {t : TypeId} {α : Type} {K : Kd α} {B B' : α → Prop} (h : Opn P t K B) (hi : ∀ a, B a → B' a) : Opn P t K B' :=
  ⟨h.cells, fun hx hw => let ⟨a, h1, h2⟩ := h.opn hx hw; ⟨a, h1, hi a h2⟩⟩
theorem Opn.int {P : Program} {t : TypeId} {k : IntKind} (ht : P.underlying t = some (.int k)) (hc : P.cellsOf t = 1) : Opn P t (Kd.int k) (fun n => (Lit.int k n).wf = true) :=
  ⟨hc, fun hx _ => by obtain ⟨n, rfl, _, hw⟩ := DataW.trod_int ht hx; exact ⟨n, rfl, hw⟩⟩
theorem Opn.bool {P : Program} {t : TypeId} (ht : P.underlying t = some .bool) (hc : P.cellsOf t = 1) : Opn P t Kd.bool (fun _ => True) :=
  ⟨hc, fun hx _ => by obtain ⟨b, rfl, _⟩ := DataW.trod_bool ht hx; exact ⟨b, rfl, trivial⟩⟩
theorem Opn.string {P : Program} {t : TypeId} (ht : P.underlying t = some .string) (hc : P.cellsOf t = 1) : Opn P t Kd.string (fun s => s.size ≤ 140737488351232) :=
  ⟨hc, fun hx hw => by
    obtain ⟨s, rfl, rfl, _⟩ := DataW.trod_string ht hx
    refine ⟨s, rfl, ?_⟩
    have := hw s.data.toList.length (by simp [DataW.weights])
    rw [Array.length_toList] at this
    exact this⟩

theorem weightsAll_mem {H : Type} {P : Program} {e : TypeId} : ∀ {l : List (DataW H)} {d : DataW H}, d ∈ l → ∀ n ∈ d.weights P e, n ∈ DataW.weightsAll P e l
  | d0 :: l, d, hd, n, hn => by
    simp only [DataW.weightsAll, List.mem_append]
    rcases List.mem_cons.1 hd with rfl | hd
    · exact .inl hn
    · exact .inr (weightsAll_mem hd n hn)
theorem cells?_of {w : World} {base : Nat} {a : Addr} {n : Nat} {cs : List Value} (h : w.cells? base a n = some cs) : cs.length = n ∧ ∀ i u, cs[i]? = some u → w.cell? (a.add i) = some u := by
  unfold World.cells? at h
  split at h
  · have hl := mapM_some_length h
    refine ⟨by simpa using hl, fun i u hu => ?_⟩
    have hi : i < n := by
      have := (List.getElem?_eq_some_iff.1 hu).1
      have h2 : cs.length = n := by simpa using hl
      omega
    have := mapM_some_get h i i (by simp [hi])
    rw [this]; exact hu
  · cases h
theorem add_add' (a : Addr) (i j : Nat) : (a.add i).add j = a.add (i + j) := by
  unfold Addr.add
  by_cases h1 : i = 0 <;> by_cases h2 : j = 0 <;> simp [h1, h2, Nat.add_assoc]

theorem exists_list {α β : Type} (f : β → α → Prop) : ∀ (l : List β), (∀ b ∈ l, ∃ a, f b a) → ∃ xs : List α, xs.length = l.length ∧ ∀ (i : Nat) (b : β), l[i]? = some b → ∃ a, xs[i]? = some a ∧ f b a
  | [], _ => ⟨[], rfl, fun i b h => by simp at h⟩
  | b :: l, h => by
    obtain ⟨a, ha⟩ := h b List.mem_cons_self
    obtain ⟨xs, hl, hx⟩ := exists_list f l (fun b hb => h b (List.mem_cons_of_mem _ hb))
    refine ⟨a :: xs, by simp [hl], fun i b' h' => ?_⟩
    cases i with
    | zero => simp only [List.getElem?_cons_zero, Option.some.injEq] at h'; subst h'; exact ⟨a, rfl, ha⟩
    | succ i => simp only [List.getElem?_cons_succ] at h' ⊢; exact hx i b' h'

theorem Opn.slice {P : Program} {t e : TypeId} {α : Type} {K : Kd α} {B : α → Prop} {b : Nat} (ht : P.underlying t = some (.slice e)) (hc : P.cellsOf t = 1) (hb : P.bytesOf e = b) (h : Opn P e K B) :
    Opn P t (Kd.slice e K) (fun l => l.length * b ≤ 140737488351232 ∧ ∀ x ∈ l, B x) :=
  ⟨hc, fun {H enc w base sp held fuel cs x} hx hw => by
    rcases DataW.trod_slice ht hx with ⟨rfl, rfl⟩ | ⟨a, len, cap, elems, rest, n, _, rfl, rfl, _, hl, hm, hlen, hel, _, _⟩
    · exact ⟨[], ⟨none, 0, rfl, Nat.le_refl _, rfl, by simp, fun hp => absurd hp (by simp)⟩, by simp, by simp⟩
    · have hel' : ∀ y ∈ elems.zipIdx, ∃ z, (∃ c, c.length = K.sz ∧ K.K w z c ∧ ∀ i u, c[i]? = some u → w.cell? (a.add (y.2 * K.sz + i)) = some u) ∧ B z := by
        rintro ⟨y, i⟩ hy
        have hy' : elems[i]? = some y := by simpa using (List.mem_zipIdx_iff_getElem?.1 hy)
        have hi : i < len := by rw [← hlen]; exact (List.getElem?_eq_some_iff.1 hy').1
        have hE := hel i hi
        rw [hy'] at hE
        obtain ⟨c, hc1, hc2⟩ := Option.bind_eq_some_iff.1 hE
        obtain ⟨hcl, hcell⟩ := cells?_of hc1
        obtain ⟨z, hz1, hz2⟩ := h.opn hc2 (fun n hn => by
          refine hw n ?_
          simp only [DataW.weights, ht, List.mem_cons, List.mem_append]
          exact .inr (.inl (weightsAll_mem (List.mem_map.2 ⟨y, List.mem_of_getElem? hy', rfl⟩) n hn)))
        refine ⟨z, ⟨c, by rw [hcl, h.cells], hz1, fun j u hu => ?_⟩, hz2⟩
        have := hcell j u hu
        rw [add_add', h.cells] at this
        exact this
      obtain ⟨xs, hxl, hxs⟩ := exists_list _ elems.zipIdx hel'
      have hxl' : xs.length = len := by rw [hxl]; simpa using hlen
      have get : ∀ j z, xs[j]? = some z → (∃ c, c.length = K.sz ∧ K.K w z c ∧ ∀ i u, c[i]? = some u → w.cell? (a.add (j * K.sz + i)) = some u) ∧ B z := by
        intro j z hz
        have hj : j < elems.length := by have := (List.getElem?_eq_some_iff.1 hz).1; omega
        obtain ⟨z', e1, e2⟩ := hxs j (elems[j], j) (by simp [hj])
        rw [hz] at e1
        cases e1
        exact e2
      have hsz : xs.length * b ≤ 140737488351232 := by
        have := hw ((elems.length + rest.length) * P.bytesOf e) (by simp [DataW.weights, ht])
        rw [hb] at this
        refine Nat.le_trans (Nat.mul_le_mul_right _ ?_) this
        omega
      refine ⟨xs, ⟨some a, cap, by rw [hxl'], by omega, hxl' ▸ rfl, ?_, fun _ => ⟨a, rfl, fun j z hz => ?_⟩⟩, hsz, ?_⟩
      · simp only [maxLen] at hm; omega
      · exact (get j z hz).1
      · intro z hz
        obtain ⟨j, hj⟩ := List.mem_iff_getElem?.1 hz
        exact (get j z hj).2⟩

/-- The fields of a struct, from cell off on. -/
structure OpnF (P : Program) (fs : List Field) (off : Nat) {α : Type} (K : Kd α) (B : α → Prop) : Prop where
  opn : ∀ {H : Type} {enc : TypeId × Value → H} {w : World} {base : Nat} {sp : Nat → Bool} {held : Bool} {n : Nat} {cs : List Value} {xs : List (DataW H × List MemPlace)},
    xs.length = fs.length → cs.length = off + K.sz → (∀ (i : Nat) (f : Field), fs[i]? = some f → DataW.trod enc P w base sp held n f.type ((cs.drop f.offset).take (P.cellsOf f.type)) = xs[i]?) →
    (∀ m ∈ DataW.weightsEach P (fs.map (·.type)) (xs.map (·.1)), m ≤ reachBytes) → ∃ a, K.K w a (cs.drop off) ∧ B a
theorem OpnF.last {P : Program} {f : Field} {t : TypeId} {off : Nat} {α : Type} {K : Kd α} {B : α → Prop} (ho : f.offset = off) (hf : f.type = t) (h : Opn P t K B) : OpnF P [f] off K B :=
  ⟨fun {H enc w base sp held n cs xs} hl hc hx hw => by
    subst hf; subst ho
    match xs, hl with
    | [x], _ =>
      have h0 := hx 0 f rfl
      rw [h.cells, List.take_of_length_le (by rw [List.length_drop]; omega)] at h0
      exact h.opn h0 (fun m hm => hw m (by simpa [DataW.weightsEach] using hm))⟩
theorem OpnF.cons {P : Program} {f : Field} {fs : List Field} {t : TypeId} {off : Nat} {α β : Type} {K : Kd α} {K2 : Kd β} {B : α → Prop} {B2 : β → Prop} (ho : f.offset = off) (hf : f.type = t) (h : Opn P t K B) (h2 : OpnF P fs (off + K.sz) K2 B2) :
    OpnF P (f :: fs) off (Kd.pair K K2) (fun x => B x.1 ∧ B2 x.2) :=
  ⟨fun {H enc w base sp held n cs xs} hl hc hx hw => by
    subst hf; subst ho
    match xs, hl with
    | x :: xs, hl =>
      have h0 := hx 0 f rfl
      rw [h.cells] at h0
      obtain ⟨a, ha, hb⟩ := h.opn h0 (fun m hm => hw m (by simp only [List.map_cons, DataW.weightsEach, List.mem_append]; exact .inl hm))
      have hc' : cs.length = f.offset + (K.sz + K2.sz) := hc
      obtain ⟨a2, ha2, hb2⟩ := h2.opn (xs := xs) (cs := cs) (n := n) (enc := enc) (w := w) (by simpa using hl) (by omega) (fun i g hg => hx (i + 1) g hg) (fun m hm => hw m (by simp only [List.map_cons, DataW.weightsEach, List.mem_append]; exact .inr hm))
      refine ⟨(a, a2), ⟨_, _, ?_, ha, ha2⟩, hb, hb2⟩
      rw [← List.drop_drop]
      exact (List.take_append_drop _ _).symm⟩
theorem Opn.struct {P : Program} {t : TypeId} {fs : Array Field} {α : Type} {K : Kd α} {B : α → Prop} (ht : P.underlying t = some (.struct fs)) (hc : P.cellsOf t = K.sz) (h : OpnF P fs.toList 0 K B) : Opn P t K B :=
  ⟨hc, fun hx hw => by
    obtain ⟨xs, n, _, rfl, hl, hlen, hf⟩ := DataW.trod_struct ht hx
    obtain ⟨a, ha, hb⟩ := h.opn (by simpa using hlen) (by rw [hl, hc]; omega) (fun i f hi => hf i f (by simpa using hi)) (fun m hm => hw m (by simpa [DataW.weights, ht] using hm))
    exact ⟨a, by simpa using ha, hb⟩⟩
theorem Opn.iso {P : Program} {t : TypeId} {α β : Type} {K : Kd α} {B : α → Prop} (f : β → α) (g : α → β) (hfg : ∀ a, f (g a) = a) (h : Opn P t K B) : Opn P t (Kd.iso K f) (fun b => B (f b)) :=
  ⟨h.cells, fun hx hw => by
    obtain ⟨a, ha, hb⟩ := h.opn hx hw
    exact ⟨g a, by show K.K _ (f (g a)) _; rw [hfg]; exact ha, by show B (f (g a)); rw [hfg]; exact hb⟩⟩

/-- An argument that is a slice. -/
theorem arg_slice {P : Program} {t e : TypeId} {α : Type} {K : Kd α} {B : List α → Prop} {H : Type} {enc : TypeId × Value → H} {w : World} {base : Nat} {sp : Nat → Bool} {held : Bool} {v : Value} {d : DataW H} {ps : List MemPlace} {ts : List TypeId} {ds : List (DataW H)} {j : Nat}
    (h : Opn P t (Kd.slice e K) B) (hv : ∃ a len cap, v = .slice a len cap) (hr : DataW.Trod enc P w base sp held t v d ps)
    (hsz : (DataW.weightsEach P ts ds).all (· ≤ reachBytes) = true) (ht : ts[j]? = some t) (hd : ds[j]? = some d) :
    ∃ (A : Option Addr) (l : List α) (c : Nat), v = .slice A l.length c ∧ l.length ≤ c ∧ K.C w A l.length l ∧ B l := by
  obtain ⟨fuel, hf⟩ := hr
  obtain ⟨l, ⟨A, c, hcs, hl, hC⟩, hB⟩ := h.opn hf (fun n hn => by
    have := List.all_eq_true.1 hsz _ (DataW.weights_mem_each ht hd n hn)
    simpa using this)
  obtain ⟨a, len, cap, rfl⟩ := hv
  simp [Value.cells] at hcs
  obtain ⟨rfl, rfl, rfl⟩ := hcs
  exact ⟨a, l, cap, rfl, hl, hC, hB⟩

/-- An argument that is a struct. -/
theorem arg_struct {P : Program} {t : TypeId} {α : Type} {K : Kd α} {B : α → Prop} {H : Type} {enc : TypeId × Value → H} {w : World} {base : Nat} {sp : Nat → Bool} {held : Bool} {v : Value} {d : DataW H} {ps : List MemPlace} {ts : List TypeId} {ds : List (DataW H)} {j n : Nat}
    (h : Opn P t K B) (hv : ∃ cs, v = .agg cs ∧ cs.size = n) (hr : DataW.Trod enc P w base sp held t v d ps)
    (hsz : (DataW.weightsEach P ts ds).all (· ≤ reachBytes) = true) (ht : ts[j]? = some t) (hd : ds[j]? = some d) :
    ∃ (x : α) (l : List Value), v = .agg l.toArray ∧ K.K w x l ∧ B x := by
  obtain ⟨fuel, hf⟩ := hr
  obtain ⟨x, hK, hB⟩ := h.opn hf (fun n hn => by
    have := List.all_eq_true.1 hsz _ (DataW.weights_mem_each ht hd n hn)
    simpa using this)
  obtain ⟨cs, rfl, _⟩ := hv
  exact ⟨x, cs.toList, by rw [Array.toArray_toList], hK, hB⟩

end Go.Proofs.YtddnepddilbikaaDoor.Open
