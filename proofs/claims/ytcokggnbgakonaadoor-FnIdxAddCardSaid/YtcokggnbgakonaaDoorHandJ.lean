/- Index.Add, impl.filesOf and impl.AddFile, walked. -/
import Derived.Test.YtcokggnbgakonaaDoorHandI
set_option linter.unusedVariables false
set_option linter.unusedSimpArgs false
namespace Go.Proofs.YtcokggnbgakonaaDoor.HandJ
open Go.RowKit Go.Proofs.YtcokggnbgakonaaDoorW.PrintWords Go.Proofs.YtcokggnbgakonaaDoorW.PrintLast Go.Proofs.YtcokggnbgakonaaDoorW.PrintMore Go.Proofs.YtcokggnbgakonaaDoor.QAll Go.Lib Ptr HandH HandF HandI

/-- The cells of an entry with a name alone. -/
def ent0 (nm : ByteArray) : List Value := [.int .u8 0, .int .u8 0, .int .u8 0, .int .u8 0, .int .u8 0, .int .u8 0, .int .u8 0, .int .u8 0, .int .u8 0, .int .u8 0, .int .u8 0, .int .u8 0, .int .u8 0, .int .u8 0, .int .u8 0, .int .u8 0, .int .u8 0, .int .u8 0, .int .u8 0, .int .u8 0, .string nm, .int .i64 0, .int .i64 0, .int .i64 0, .int .i64 0, .int .i64 0, .int .i64 0, .int .u32 0, .int .u32 0, .int .u32 0, .int .u32 0, .int .u32 0, .int .u32 0, .int .i64 0, .bool false, .bool false]
theorem ent0_len (nm : ByteArray) : (ent0 nm).length = 36 := rfl
theorem ent0_one (nm : ByteArray) : ∀ u ∈ ent0 nm, u.oneCell' = true := by
  intro u hu
  unfold ent0 at hu
  simp only [List.mem_cons, List.not_mem_nil, or_false] at hu
  rcases hu with rfl | rfl | rfl | rfl | rfl | rfl | rfl | rfl | rfl | rfl | rfl | rfl | rfl | rfl | rfl | rfl | rfl | rfl | rfl | rfl | rfl | rfl | rfl | rfl | rfl | rfl | rfl | rfl | rfl | rfl | rfl | rfl | rfl | rfl | rfl | rfl <;> rfl
theorem new0 {W : World} {base : Nat} (nm : ByteArray) (hB : base ≤ W.heap.size) : (ptr 54 (raw 36)).M (W.alloc (.cells (ent0 nm).toArray 54)) base (fun j => W.heap.size ≤ j) (ent0 nm) [.pointer (some ⟨W.heap.size, 0, none⟩)] :=
  ptr_new (d := raw 36) (cells := (ent0 nm).toArray) ⟨rfl, ent0_len nm, ent0_one nm⟩ hB (Nat.le_refl _)

set_option maxHeartbeats 4000000 in
set_option maxRecDepth 100000 in
theorem add (nm : ByteArray) (g : Nat) (V : Value) (es : List (List Value)) (w0 w : World) (hgi : w0.heap.size ≤ g) (hI : w.heap[g]? = some (.cells (idxC V) 46 (0, 0))) (hR : (ptr 54 (raw 36)).R 36 w w0.heap.size (fun _ => True) V es) (hB : Below w0.heap.size w0 w) (hl : es.length ≤ 1000) :
    Calls Tryd.prog 13 #[.pointer (some ⟨g, 0, none⟩), .string nm] w fun e w' => ∃ v V1, e = .returned v ∧ w'.heap[g]? = some (.cells (idxC V1) 46 (0, 0)) ∧ (ptr 54 (raw 36)).R 36 w' w0.heap.size (fun _ => True) V1 (es ++ [ent0 nm]) ∧ Below w0.heap.size w0 w' := by
  obtain ⟨A, n, c, rfl⟩ : ∃ A n c, V = .slice A n c := by obtain ⟨A, c, h⟩ := Kd.R_slice hR; exact ⟨A, _, c, h⟩
  have HI := Aside0.mk hI
  have HR := Aside0.mk hR
  have HB := Aside0.mk hB
  have HL := Aside0.mk hl
  have HGI := Aside0.mk hgi
  have hg0 : ∀ o, (w.alloc o).cell? ⟨g, 1, none⟩ = some (.slice A n c) := fun o => (blk_cell (blk_alloc hI _) 1).trans rfl
  have hgc : w.cell? ⟨g, 1, none⟩ = some (.slice A n c) := (blk_cell hI 1).trans rfl
  clear hI hR hB hl hgi
  go_enter Tryd.func13, Tryd.ntmps13
  go_wp2_with (first
    | ((with_reducible refine gate_builtin (b := .append) (xs := #[.tmp 13, .tmp 15]) rfl ?_); at_builtin; refine Kd.R_append (ptr 54 (raw 36)) (w0 := w0) w0.heap.size rfl (.tmp 13) (.tmp 15) 39 36 (.pointer none) 8 rfl Tryd.underlying39 info36 rfl (by decide) (by decide) (.slice A n c) es (ent0 nm) [.pointer (some ⟨w.heap.size, 0, none⟩)] (fun _ => True) (fun j => w.heap.size ≤ j) rfl ?hx (new0 nm HB.out.size) (ne36 HR.out (Below.refl _ _)) (fun _ _ => trivial) (Kd.R_below HR.out (below_alloc (Below.refl _ _) _)) (below_alloc HB.out _) ?hbase ?hlen ?_
       case hx => first | (go_simp; done) | (simp [Act.eval]; done)
       case hbase => exact Nat.le_trans HB.out.size (by simp)
       case hlen => have := HL.out; omega
       intro v7 w7 ho7 hb7 hg7 hat7
       obtain ⟨A7, n7, c7, rfl⟩ : ∃ A n c, v7 = .slice A n c := by obtain ⟨A, c, h⟩ := Kd.R_slice ho7; exact ⟨A, _, c, h⟩
       have HR7 := Aside0.mk ho7
       have HB7 := Aside0.mk hb7
       have HI7 : Aside0 (w7.heap[g]? = some (.cells (idxC (.slice A n c)) 46 (0, 0))) := ⟨blk_grown (blk_alloc HI.out _) hg7 (Kd.R_ne HR.out HI.out (by decide))⟩
       clear ho7 hb7 hg7 hat7
       have hc7 : w7.cell? ⟨g, 1, none⟩ = some (.slice A n c) := (blk_cell HI7.out 1).trans rfl
       have hz7 := blk_frozen HI7.out 1))
  go_ret
  exact ⟨_, .slice A7 n7 c7, rfl, blk_put HI7.out 1 (.slice A7 n7 c7) rfl, R_put HR7.out HI7.out (by decide) 1 (.slice A7 n7 c7), below_set HB7.out HGI.out⟩

/-- The cells of an entry, and the file that is told of it. -/
def EntOf (e : List Value) (x : S31) : Prop := ∃ (hv : Nat → Int) (nm : ByteArray) (c1 c2 c3 m1 m2 m3 dv no md ui gi sz st : Int) (sk it : Bool) (a1 a2 b1 b2 : Int),
  e = [.int .u8 (hv 0), .int .u8 (hv 1), .int .u8 (hv 2), .int .u8 (hv 3), .int .u8 (hv 4), .int .u8 (hv 5), .int .u8 (hv 6), .int .u8 (hv 7), .int .u8 (hv 8), .int .u8 (hv 9), .int .u8 (hv 10), .int .u8 (hv 11), .int .u8 (hv 12), .int .u8 (hv 13), .int .u8 (hv 14), .int .u8 (hv 15), .int .u8 (hv 16), .int .u8 (hv 17), .int .u8 (hv 18), .int .u8 (hv 19), .string nm, .int .i64 c1, .int .i64 c2, .int .i64 c3, .int .i64 m1, .int .i64 m2, .int .i64 m3, .int .u32 dv, .int .u32 no, .int .u32 md, .int .u32 ui, .int .u32 gi, .int .u32 sz, .int .i64 st, .bool sk, .bool it] ∧ impl_stampOf.f c1 c2 c3 = some (a1, a2) ∧ impl_stampOf.f m1 m2 m3 = some (b1, b2) ∧ (∀ i, i < 20 → 0 ≤ hv i ∧ hv i < 256) ∧
  x = ⟨⟨a1, a2⟩, ⟨b1, b2⟩, dv, no, md, ui, gi, sz, hexOf hv, nm, st, sk, it⟩
theorem fileOf' {g : Nat} {e : List Value} {x : S31} {w : World} (h : EntOf e x) (hg : w.heap[g]? = some (.cells e.toArray 54 (0, 0))) :
    Calls Tryd.prog 18 #[.pointer (some ⟨g, 0, none⟩)] w fun e w' => e = .returned (.agg #[.int .i64 x.f0.f0, .int .i64 x.f0.f1, .int .i64 x.f1.f0, .int .i64 x.f1.f1, .int .u32 x.f2, .int .u32 x.f3, .int .u32 x.f4, .int .u32 x.f5, .int .u32 x.f6, .int .u32 x.f7, .string x.f8, .string x.f9, .int .i64 x.f10, .bool x.f11, .bool x.f12]) ∧ Below w.heap.size w w' := by
  obtain ⟨hv, nm, c1, c2, c3, m1, m2, m3, dv, no, md, ui, gi, sz, st, sk, it, a1, a2, b1, b2, rfl, h1, h2, h3, rfl⟩ := h
  exact fileOf g hv nm c1 c2 c3 m1 m2 m3 dv no md ui gi sz st sk it a1 a2 b1 b2 (hexOf hv) w h1 h2 rfl h3 hg
theorem info31z : (Tryd.prog.info? 31).map (fun i => (i.zero, i.size, i.bytes)) = some (some (.agg #[(.int .i64 0), (.int .i64 0), (.int .i64 0), (.int .i64 0), (.int .u32 0), (.int .u32 0), (.int .u32 0), (.int .u32 0), (.int .u32 0), (.int .u32 0), (.string ⟨#[]⟩), (.string ⟨#[]⟩), (.int .i64 0), (.bool false), (.bool false)]), 15, 104) := by kernel_rfl

set_option maxHeartbeats 4000000 in
set_option maxRecDepth 100000 in
theorem filesOf (g : Nat) (V : Value) (es : List (List Value)) (xs : List S31) (b0 : Nat) (w : World) (hI : w.heap[g]? = some (.cells (idxC V) 46 (0, 0))) (hR : (ptr 54 (raw 36)).R 36 w b0 (fun _ => True) V es) (hlen : es.length = xs.length) (hl : es.length ≤ 1001)
    (hE : ∀ (k : Nat) (e : List Value), es[k]? = some e → ∃ x, xs[k]? = some x ∧ EntOf e x) :
    Calls Tryd.prog 14 #[.pointer (some ⟨g, 0, none⟩)] w fun e w' => ∃ v, e = .returned v ∧ k31.R 31 w' w.heap.size (fun _ => True) v xs ∧ Below w.heap.size w w' := by
  obtain ⟨A, c, hV, hcl, hC⟩ := Kd.R_reads hR
  subst hV
  have hgc : w.cell? ⟨g, 1, none⟩ = some (.slice A es.length c) := (blk_cell hI 1).trans rfl
  have HC := Aside0.mk hC
  have HE := Aside0.mk hE
  have HL := Aside0.mk hl
  have HLN := Aside0.mk hlen
  clear hI hR hC hE hl hlen
  generalize hN : es.length = n at *
  go_enter Tryd.func14, Tryd.ntmps14
  go_wp2
  go_loopg [3, 11] n (fun gk v3 v11 w' => ∃ (k : Nat) (V3 : Value), v3 = V3 ∧ v11 = .int .i64 (k : Int) ∧ Aside0 (k + gk = n) ∧ Aside0 (Below w.heap.size w w') ∧ Aside0 (k31.R 31 w' w.heap.size (fun _ => True) V3 (xs.take k)))
  case atStart => exact ⟨0, .slice none 0 0, rfl, rfl, ⟨by omega⟩, ⟨Below.refl _ _⟩, ⟨Kd.R_nil _ _ _ _ _⟩⟩
  case round =>
    obtain ⟨k, V3, hV3, rfl, HK, HB, HR⟩ := hrel
    replace hV3 := hV3.symm
    subst hV3
    by_cases hlt : k < n
    · obtain ⟨g0, rfl⟩ : ∃ m, gk = m + 1 := ⟨gk - 1, by have := HK.out; omega⟩
      have hk1 : (k : Int) < 1001 := by have := HL.out; omega
      obtain ⟨ad, cc, e1, hcz, hkk, hread⟩ := Kd.C_get (Kd.C_below HC.out HB.out) [] (k : Int) (by omega) (by omega)
      cases e1
      rw [Int.toNat_natCast] at hread hkk
      have hek : es[k]? = some (es.getD k []) := by
        rw [List.getD_eq_getElem?_getD, List.getElem?_eq_getElem (by omega)]
        rfl
      obtain ⟨x, hxk, hent⟩ := HE.out k _ hek
      obtain ⟨ge, cells, rfl, hge, hraw, hrl, _⟩ := hkk
      have hcl2 : cells = (es.getD k []).toArray := by rw [← hraw]
      have hx1 : wr.cell? (ad.add k) = some (.pointer (some ⟨ge, 0, none⟩)) := by simpa [ptr] using hread 0 _ rfl
      rw [hcl2] at hge
      have HF := Aside0.mk (fileOf' hent hge)
      have HTK : Aside0 (xs.take (k + 1) = xs.take k ++ [x]) := ⟨by rw [List.take_add_one, hxk]; rfl⟩
      clear hek hxk hent hge hraw hrl hcl2 hread hcz
      go_wp2_with (first
        | (go_at_call 18; (with_reducible refine HF.out.mono ?_); rintro e w2 ⟨rfl, hb2⟩; have HB2 : Aside0 (Below w.heap.size w w2) := ⟨HB.out.trans (hb2.mono HB.out.size)⟩; have HR2 : Aside0 (k31.R 31 w2 w.heap.size (fun _ => True) V3 (xs.take k)) := ⟨Kd.R_below HR.out hb2⟩; clear hb2)
        | ((with_reducible refine gate_builtin (b := .append) (xs := #[.tmp 15, .tmp 18]) rfl ?_); at_builtin; refine Kd.R_append k31 (w0 := w) w.heap.size rfl (.tmp 15) (.tmp 18) 22 31 _ 104 rfl Tryd.underlying22 info31z rfl (by decide) (by decide) V3 (xs.take k) x [.int .i64 x.f0.f0, .int .i64 x.f0.f1, .int .i64 x.f1.f0, .int .i64 x.f1.f1, .int .u32 x.f2, .int .u32 x.f3, .int .u32 x.f4, .int .u32 x.f5, .int .u32 x.f6, .int .u32 x.f7, .string x.f8, .string x.f9, .int .i64 x.f10, .bool x.f11, .bool x.f12] (fun _ => True) (fun _ => False) rfl ?hx (k31_mkM _ _ _ x) (fun _ h => h.elim) (fun _ _ => trivial) HR2.out HB2.out HB2.out.size ?hlen ?_
           case hx => first | (go_simp; done) | (simp [Act.eval]; done)
           case hlen => rw [List.length_take]; have := HL.out; have := Nat.min_le_left k xs.length; omega
           intro v7 w7 ho7 hb7 hg7 hat7
           have HR7 := Aside0.mk ho7
           have HB7 := Aside0.mk hb7
           clear ho7 hb7 hg7 hat7))
      go_roundg g0
      case measure => omega
      case rel => exact ⟨k + 1, v7, rfl, by push_cast; rfl, ⟨by have := HK.out; omega⟩, HB7, ⟨by rw [HTK.out]; exact HR7.out⟩⟩
    · have hkn : k = n := by have := HK.out; omega
      have hR := HR.out
      rw [hkn, HLN.out, List.take_length] at hR
      have HR2 := Aside0.mk hR
      clear hR
      go_wp2
      go_ret
      exact ⟨V3, rfl, HR2.out, HB.out⟩

set_option maxHeartbeats 4000000 in
set_option maxRecDepth 100000 in
theorem addFile (A : Option Addr) (c : Nat) (l : List S31) (nm : ByteArray) (y : S31) (ev : Value) (w : World) (hC : Kd.C k31 w A l.length l) (hc : l.length ≤ c) (hl : l.length ≤ 1000) (hf : ∀ x ∈ l, Fit x) (hx : ∀ x ∈ l, EntOf (ent x) x) (hy : EntOf (ent0 nm) y) (hE : w.cell? ⟨0, 0, none⟩ = some ev) :
    Calls Tryd.prog 7 #[.slice A l.length c, .string nm] w fun e w' => ∃ v, e = .returned v ∧ k31.R 31 w' w.heap.size (fun _ => True) v (l ++ [y]) ∧ Below w.heap.size w w' := by
  have HI := Aside0.mk (indexOf A c l ev w hC hc hl hf hE)
  have HL := Aside0.mk hl
  have HX : Aside0 (∀ (k : Nat) (e : List Value), (l.map ent ++ [ent0 nm])[k]? = some e → ∃ x, (l ++ [y])[k]? = some x ∧ EntOf e x) := ⟨by
    intro k e hk
    rcases Nat.lt_or_ge k l.length with hlt | hge
    · rw [List.getElem?_append_left (by rw [List.length_map]; exact hlt), List.getElem?_map] at hk
      rw [List.getElem?_append_left hlt]
      obtain ⟨x, h1, rfl⟩ := Option.map_eq_some_iff.1 hk
      exact ⟨x, h1, hx x (List.mem_of_getElem? h1)⟩
    · rw [List.getElem?_append_right (by rw [List.length_map]; exact hge), List.length_map] at hk
      rw [List.getElem?_append_right hge]
      obtain ⟨h1, h2⟩ := List.getElem?_eq_some_iff.1 hk
      have h0 : k - l.length = 0 := by simpa using h1
      rw [h0] at hk ⊢
      cases hk
      exact ⟨y, rfl, hy⟩⟩
  clear hC hl hf hx hy hE
  go_enter Tryd.func7, Tryd.ntmps7
  go_wp2_with (first
    | (go_at_call 12; (with_reducible refine HI.out.mono ?_); rintro e w1 ⟨g, V, rfl, hg1, hi1, hr1, hb1⟩; have HA := Aside0.mk (add nm g V (l.map ent) w w1 hg1 hi1 hr1 hb1 (by rw [List.length_map]; exact HL.out)); clear hg1 hi1 hr1 hb1)
    | (go_at_call 13; (with_reducible refine HA.out.mono ?_); rintro e w2 ⟨v, V1, rfl, hi2, hr2, hb2⟩; have HB2 := Aside0.mk hb2; have HF := Aside0.mk (filesOf g V1 (l.map ent ++ [ent0 nm]) (l ++ [y]) w.heap.size w2 hi2 hr2 (by simp) (by have := HL.out; simp; omega) HX.out); clear hi2 hr2 hb2)
    | (go_at_call 14; (with_reducible refine HF.out.mono ?_); rintro e w3 ⟨v3, rfl, hr3, hb3⟩; have HR3 : Aside0 (k31.R 31 w3 w.heap.size (fun _ => True) v3 (l ++ [y])) := ⟨Kd.R_lower hr3 HB2.out.size⟩; have HB3 : Aside0 (Below w.heap.size w w3) := ⟨HB2.out.trans (hb3.mono HB2.out.size)⟩; clear hr3 hb3))
  go_ret
  exact ⟨v3, rfl, HR3.out, HB3.out⟩
#print axioms addFile
end Go.Proofs.YtcokggnbgakonaaDoor.HandJ
