/- plumbing.NewHasher walked. -/
import Derived.Test.YthpoiceceogdhaaDoorHshB
import Derived.Test.YthpoiceceogdhaaDoorShelf
import Derived.Lib.ItoaMem
import Derived.Lib.AppendIntMem
set_option linter.unusedVariables false
set_option linter.unusedSimpArgs false
namespace Go.Proofs.YthpoiceceogdhaaDoor.HshC
open Go.RowKit Go.Proofs.YthpoiceceogdhaaDoorW.PrintWords Go.Proofs.YthpoiceceogdhaaDoor.QAll ShaA ShaP ShaB ShaC ShaD ShaE ShaF HshA HshB

theorem found60w : (Tryd.prog.info? 60).map (fun i => (i.methods.find? (fun m => m.name == "Write")).map (fun m => (m.path, m.func))) = some (some (#[], some (59, true))) := by kernel_rfl
theorem found60s : (Tryd.prog.info? 60).map (fun i => (i.methods.find? (fun m => m.name == "Sum")).map (fun m => (m.path, m.func))) = some (some (#[], some (58, true))) := by kernel_rfl
theorem und60 : Tryd.prog.underlying 60 = some (.pointer 62) := by kernel_rfl
theorem methodW (n g : Nat) (W : World) : (method (n + 1) 60 (.pointer (some ⟨g, 0, none⟩)) "Write").run Tryd.prog W = .ok (59, .pointer (some ⟨g, 0, none⟩)) W := by
  have h := found60w
  obtain ⟨i, hi, h1⟩ := Option.map_eq_some_iff.1 h
  obtain ⟨m, hm, h2⟩ := Option.map_eq_some_iff.1 h1
  simp only [Prod.mk.injEq] at h2
  unfold method
  simp [typeInfo, hi, hm, h2.1, h2.2, follow, receiverAt, Place.get, und60]
theorem methodS (n g : Nat) (W : World) : (method (n + 1) 60 (.pointer (some ⟨g, 0, none⟩)) "Sum").run Tryd.prog W = .ok (58, .pointer (some ⟨g, 0, none⟩)) W := by
  have h := found60s
  obtain ⟨i, hi, h1⟩ := Option.map_eq_some_iff.1 h
  obtain ⟨m, hm, h2⟩ := Option.map_eq_some_iff.1 h1
  simp only [Prod.mk.injEq] at h2
  unfold method
  simp [typeInfo, hi, hm, h2.1, h2.2, follow, receiverAt, Place.get, und60]

/-- A hash made in a call, and blocks beside it that stay. -/
structure Hn (w W : World) (hb : Nat) (ks : List (Nat × Array Value × Nat)) (m : List Nat) : Prop where
  ex : ∃ v, Hs W hb v m ∧ ∀ k, v.ownBlock = some k → w.heap.size ≤ k
  bel : Below w.heap.size w W
  gh : w.heap.size ≤ hb
  keep : ∀ g cs t, (g, cs, t) ∈ ks → W.heap[g]? = some (.cells cs t (0, 0)) ∧ t ≠ 62 ∧ t ≠ 5
theorem Hn.below {w W W' : World} {hb : Nat} {ks : List (Nat × Array Value × Nat)} {m : List Nat} (h : Hn w W hb ks m) (hb' : Below W.heap.size W W') : Hn w W' hb ks m := by
  obtain ⟨v, h1, h2⟩ := h.ex
  exact ⟨⟨v, h1.below hb', h2⟩, h.bel.trans (hb'.mono h.bel.size), h.gh, fun g cs t hk => ⟨(hb'.block g (Lib.lt_of_heap (h.keep g cs t hk).1)).trans (h.keep g cs t hk).1, (h.keep g cs t hk).2⟩⟩
theorem Hn.lt {w W : World} {hb : Nat} {ks : List (Nat × Array Value × Nat)} {m : List Nat} (h : Hn w W hb ks m) : hb < W.heap.size := by
  obtain ⟨v, h1, _⟩ := h.ex
  exact h1.ob.lt
theorem Hn.len {w W : World} {hb : Nat} {ks : List (Nat × Array Value × Nat)} {m m' : List Nat} (h : Hn w W hb ks m) (e : m = m') : Hn w W hb ks m' := e ▸ h
theorem Hn.wrote {w W W' : World} {hb : Nat} {ks : List (Nat × Array Value × Nat)} {m m' : List Nat} {v v' : Value} (h : Hn w W hb ks m) (hv : Hs W hb v m) (hvo : ∀ k, v.ownBlock = some k → w.heap.size ≤ k) (h1 : Hs W' hb v' m') (h2 : v'.ownBlock = v.ownBlock ∨ ∃ b, v'.ownBlock = some b ∧ W.heap.size ≤ b) (h3 : Off W W' (fun k => k = hb ∨ v.ownBlock = some k)) : Hn w W' hb ks m' := by
  refine ⟨⟨v', h1, fun k hk => ?_⟩, h.bel.trans (h3.below h.bel.size (fun k hk => ?_)), h.gh, fun g cs t hk => ?_⟩
  · rcases h2 with h2 | ⟨b, h2, h4⟩
    · exact hvo k (by rw [← h2]; exact hk)
    · rw [h2] at hk
      injection hk with hk
      have := h.bel.size
      omega
  · rcases hk with hk | hk
    · rw [hk]; exact h.gh
    · exact hvo k hk
  · obtain ⟨k1, k2, k3⟩ := h.keep g cs t hk
    refine ⟨(h3.blk g (Lib.lt_of_heap k1) ?_).trans k1, k2, k3⟩
    rintro (e | e)
    · exact ne_type k1 hv.ob k2 e
    · exact hv.row.ne k1 k3 e
theorem hwrite {w W : World} {hb : Nat} {ks : List (Nat × Array Value × Nat)} {m : List Nat} (h : Hn w W hb ks m) (p : List Nat) (pb po c : Nat) (h8 : At8 W pb po p) (hp : 0 < p.length) (hpb : pb < W.heap.size) (hne : pb ≠ hb) (hl : m.length + p.length ≤ 1000000000000) :
    Calls Tryd.prog 59 #[.pointer (some ⟨hb, 0, none⟩), .slice (some ⟨pb, po, none⟩) p.length c] W fun e w' => e = .returned (.tuple #[.int .i64 (p.length : Int), .nilIface]) ∧ Hn w w' hb ks (m ++ p) := by
  obtain ⟨v, h1, h2⟩ := h.ex
  exact (write hb v m p pb po c W h1 h8 hp hpb hne hl).mono fun e w' ⟨e1, v', k1, k2, k3⟩ => ⟨e1, h.wrote h1 h2 k1 k2 k3⟩
theorem hwrite0 {w W : World} {hb : Nat} {ks : List (Nat × Array Value × Nat)} {m : List Nat} (h : Hn w W hb ks m) (A : Option Addr) (c : Nat) (hl : m.length ≤ 1000000000000) :
    Calls Tryd.prog 59 #[.pointer (some ⟨hb, 0, none⟩), .slice A 0 c] W fun e w' => e = .returned (.tuple #[.int .i64 0, .nilIface]) ∧ Hn w w' hb ks m := by
  obtain ⟨v, h1, h2⟩ := h.ex
  exact (write0 hb v m A c W h1 hl).mono fun e w' ⟨e1, v', k1, k2, k3⟩ => ⟨e1, h.wrote h1 h2 k1 k2 k3⟩
theorem Hn.lw {w W W' : World} {hb : Nat} {ks : List (Nat × Array Value × Nat)} {m : List Nat} (h : Hn w W hb ks m) {V : Value} {l : List Nat} (hl : Lw W W' V l) : ∃ g o c n, V = .slice (some ⟨g, o, none⟩) n c ∧ n = l.length ∧ At8 W' g o l ∧ g < W'.heap.size ∧ g ≠ hb := by
  obtain ⟨g, o, c, rfl, _, hg, h8, _, hlt⟩ := hl
  exact ⟨g, o, c, _, rfl, rfl, h8, hlt, fun e => by have := h.lt; omega⟩

theorem conv22 (W : World) (x : Nat) (hx : x < 256) : ∃ wf, (convert 22 22 (.slice (some ⟨W.heap.size, 0, none⟩) 1 1)).run Tryd.prog (W.alloc (.cells #[.int .u8 (x : Int)] 5)) = .ok (.slice (some ⟨W.heap.size, 0, none⟩) 1 1) wf ∧ At8 wf W.heap.size 0 [x] ∧ Below W.heap.size W wf ∧ W.heap.size < wf.heap.size := by
  have hsh : (W.alloc (.cells #[.int .u8 (x : Int)] 5)).shape? W.heap.size = some (5, 1) := by
    simp [World.shape?, World.alloc, -World.alloc_eq]
  have hh : (((W.alloc (.cells #[.int .u8 (x : Int)] 5)).freeze ⟨W.heap.size, 1, none⟩ 1)).heap[W.heap.size]? = some (.cells #[.int .u8 (x : Int)] 5 (1, 2)) := by
    simp [World.freeze, World.alloc, -World.alloc_eq]
    rw [Array.getElem_modify_self]
    simp
  refine ⟨(W.alloc (.cells #[.int .u8 (x : Int)] 5)).freeze ⟨W.heap.size, 1, none⟩ 1, ?_, ⟨fun y hy => by rw [List.mem_singleton.1 hy]; exact hx, fun i y hi => ?_⟩, ?_, ?_⟩
  · simp [convert, run_underlying und28, run_underlying und5, markStringish, hsh, Result.andThen]
  · rcases i with _ | i
    · injection hi with hi
      subst hi
      simp [World.cell?, hh]
    · cases hi
  · refine ⟨rfl, rfl, rfl, by simp [World.freeze, World.alloc, -World.alloc_eq], fun k hk => ?_⟩
    have h1 : W.heap.size ≠ k := by omega
    simp [World.freeze, World.alloc, -World.alloc_eq, Array.getElem?_modify, Array.getElem?_push, h1, Ne.symm h1]
  · simp [World.freeze, World.alloc, -World.alloc_eq]
theorem info42 : (Tryd.prog.info? 42).map (·.size) = some 1 := by kernel_rfl
theorem Hn.put {w W : World} {hb : Nat} {ks : List (Nat × Array Value × Nat)} {m m' : List Nat} (h : Hn w W hb ks m) {b t : Nat} {cs : Array Value} (hk : W.heap[b]? = some (.cells cs t (0, 0))) (h62 : t ≠ 62) (h5 : t ≠ 5) (hb4 : w.heap.size ≤ b) (i : Nat) (v : Value) (e : m = m') : Hn w (W.setCell ⟨b, i, none⟩ v) hb [] m' := by
  subst e
  obtain ⟨v0, k1, k2⟩ := h.ex
  exact ⟨⟨v0, Hs.off k1 (Off.set W b i v) (fun q => ne_type hk k1.ob h62 (show hb = b from q).symm) (fun k hk2 q => k1.row.ne hk h5 (by rw [hk2]; exact congrArg some q)), k2⟩, h.bel.trans ((Off.set W b i v).below h.bel.size (fun k q => by rw [show k = b from q]; exact hb4)), h.gh, fun _ _ _ q => by cases q⟩
theorem itoa_bl (n : Nat) : bl ⟨(Lib.itoa (n : Int)).toArray⟩ = (Lib.decDigits n).map (fun b => b.toNat) := by
  unfold bl
  rw [Lib.itoa_nonneg]
theorem itoa_pos (n : Nat) : 0 < (bl ⟨(Lib.itoa (n : Int)).toArray⟩).length := by
  rw [itoa_bl, List.length_map, Lib.decDigits_length]
  exact Lib.nDigits_pos n
theorem itoa_len (n : Nat) (hn : n ≤ 1000000) : (bl ⟨(Lib.itoa (n : Int)).toArray⟩).length ≤ 1000001 := by
  rw [itoa_bl, List.length_map, ← dob_dec, ← Lib.size_eq]
  have := dob_size n
  omega
set_option maxHeartbeats 8000000 in
set_option maxRecDepth 100000 in
theorem newHasher (t : Nat) (h0 : 1 ≤ t) (h1 : t ≤ 4) (n : Nat) (hn : n ≤ 1000000) (w : World) (htab : ∀ W, Below w.heap.size w W → Lib.TabIs Tryd.prog W "internal/strconv.uint64pow10" .u64 Lib.pow10Tab) :
    Calls Tryd.prog 14 #[.int .i8 (t : Int), .int .i64 (n : Int)] w fun e w' => ∃ hb, e = .returned (.agg #[.iface 60 (.pointer (some ⟨hb, 0, none⟩))]) ∧ Hn w w' hb [] (hd (nm t) n) := by
  have hmw := fun g W => methodW 192 g W
  have HTAB := Aside0.mk htab
  have HT := Aside0.mk (⟨h0, h1⟩ : 1 ≤ t ∧ t ≤ 4)
  clear htab h0 h1
  go_enter Tryd.func14, Tryd.ntmps14
  go_wp2_with (first
    | (go_at_call 20
       (with_reducible refine (newHash 1 _).mono ?_)
       rintro e w1 ⟨hb, rfl, hhb, hhs, hbel⟩
       have HH := Aside0.mk hhs
       have HBB := Aside0.mk hbel
       have HHB := Aside0.mk hhb
       clear hhs hbel hhb)
    | fail)
  have HN : Aside0 (Hn w (w1.alloc (.cells #[.iface 60 (.pointer (some ⟨hb, 0, none⟩))] 42)) hb [(w.heap.size, #[.nilIface], 42), (w1.heap.size, #[.iface 60 (.pointer (some ⟨hb, 0, none⟩))], 42)] []) := ⟨by
    refine ⟨⟨_, HH.out.below (below_alloc (Below.refl _ _) _), fun k hk => by cases hk⟩, ?_, ?_, ?_⟩
    · exact below_alloc ((below_alloc (Below.refl _ _) _).trans (HBB.out.mono (by show _ ≤ (w.heap.push _).size; simp))) _
    · rw [HHB.out]; show _ ≤ (w.heap.push _).size; simp
    · intro g cs t hm
      rcases List.mem_cons.1 hm with e | hm
      · injection e with e1 e2
        injection e2 with e2 e3
        subst e1; subst e2; subst e3
        exact ⟨blk_alloc ((HBB.out.block _ (by show _ < (w.heap.push _).size; simp)).trans (heap_alloc_new w _)) _, by decide, by decide⟩
      · rcases List.mem_cons.1 hm with e | hm
        · injection e with e1 e2
          injection e2 with e2 e3
          subst e1; subst e2; subst e3
          exact ⟨heap_alloc_new w1 _, by decide, by decide⟩
        · cases hm⟩
  generalize w1.alloc (.cells #[.iface 60 (.pointer (some ⟨hb, 0, none⟩))] 42) = wa at HN ⊢
  obtain ⟨b5, hb5⟩ : ∃ b5, b5 = w1.heap.size := ⟨_, rfl⟩
  obtain ⟨b4, hb4⟩ : ∃ b4, b4 = w.heap.size := ⟨_, rfl⟩
  rw [← hb5, ← hb4] at HN
  simp only [← hb5, ← hb4]
  obtain ⟨ks, hks⟩ : ∃ ks : List (Nat × Array Value × Nat), ks = [(b4, #[.nilIface], 42), (b5, #[.iface 60 (.pointer (some ⟨hb, 0, none⟩))], 42)] := ⟨_, rfl⟩
  rw [← hks] at HN
  have HC5 : Aside0 (∀ W m, Hn w W hb ks m → W.cell? ⟨b5, 0, none⟩ = some (.iface 60 (.pointer (some ⟨hb, 0, none⟩)))) := ⟨fun W m h => (Lib.cell_of_heap (h.keep b5 _ 42 (by rw [hks]; exact List.mem_cons_of_mem _ (List.mem_singleton.2 rfl))).1 0).trans rfl⟩
  have HC4 : Aside0 (∀ W m, Hn w W hb ks m → W.heap[b4]? = some (.cells #[.nilIface] 42 (0, 0))) := ⟨fun W m h => (h.keep b4 _ 42 (by rw [hks]; exact List.mem_cons_self)).1⟩
  clear hks hb5 HH HBB HHB
  have HB4 := Aside0.mk hb4
  clear hb4
  have c5 := HC5.out _ _ HN.out
  have c5d := HC5.out _ _ (HN.out.below (below_drew (Below.refl _ _)))
  go_region_law (first
    | (go_simp
       go_at_call 21
       (with_reducible refine (typeBytes t HT.out.1 HT.out.2 _).mono ?_)
       rintro e w2 ⟨V2, rfl, hlw, hbb⟩
       have HN2 : Aside0 (Hn w w2 hb ks []) := ⟨(HN.out.below (below_drew (Below.refl _ _))).below hbb⟩
       obtain ⟨g2, o2, k2, n2, rfl, hn2, h82, hlt2, hne2⟩ := (HN.out.below (below_drew (Below.refl _ _))).lw hlw
       have HW2 : Aside0 (Calls Tryd.prog 59 #[.pointer (some ⟨hb, 0, none⟩), .slice (some ⟨g2, o2, none⟩) n2 k2] w2 _) := ⟨by rw [hn2]; exact hwrite HN2.out (bl (nm t)) g2 o2 k2 h82 (by rw [bl_len]; exact (nm_size t).2) hlt2 hne2 (by rw [bl_len]; have := (nm_size t).1; simp only [List.length_nil]; omega)⟩
       have d5 := HC5.out _ _ HN2.out
       clear hlw hbb hn2 h82 hlt2 hne2)
    | (go_simp
       go_at_call 59
       (with_reducible refine HW2.out.mono ?_)
       rintro e w3 ⟨rfl, hn3⟩
       have HN3 := Aside0.mk hn3
       have e5 := HC5.out _ _ hn3
       clear hn3))
  all_goals (
    obtain ⟨wf, hrf0, h8f, hbf, hlf⟩ := conv22 w3 32 (by omega)
    have hrf : (convert 22 22 (.slice (some ⟨w3.heap.size, 0, none⟩) 1 1)).run Tryd.prog (w3.alloc (.cells #[.int .u8 32] 5)) = .ok (.slice (some ⟨w3.heap.size, 0, none⟩) 1 1) wf := hrf0
    clear hrf0
    have HNF : Aside0 (Hn w wf hb ks ([] ++ bl (nm t))) := ⟨HN3.out.below hbf⟩
    have HW3 : Aside0 (Calls Tryd.prog 59 #[.pointer (some ⟨hb, 0, none⟩), .slice (some ⟨w3.heap.size, 0, none⟩) 1 1] wf _) := ⟨hwrite HNF.out [32] w3.heap.size 0 1 h8f (by decide) hlf (fun e => by have := HN3.out.lt; omega) (by rw [List.nil_append, bl_len]; have := (nm_size t).1; simp only [List.length_singleton]; omega)⟩
    clear c5 c5d HW2 HN2 d5 h8f hbf hlf
    go_wp2_with (first
      | (go_at_call 59
         (with_reducible refine HW3.out.mono ?_)
         rintro e w4 ⟨rfl, hn4⟩
         have HN4 := Aside0.mk hn4
         have f5 := HC5.out _ _ hn4
         have f5d := HC5.out _ _ (hn4.below (below_drew (Below.refl _ _)))
         clear hn4)
      | fail)
    go_region_law (first
      | (go_simp
         go_at_call 22
         (with_reducible refine (Tryd.strconv_FormatInt_10 (n : Int) (by omega) (by omega) _ (HTAB.out _ (HN4.out.below (below_drew (Below.refl _ _))).bel)).mono ?_)
         rintro e w5 ⟨rfl, kq, os, hw5⟩
         have HN5 : Aside0 (Hn w w5 hb ks ([] ++ bl (nm t) ++ [32])) := ⟨(HN4.out.below (below_drew (Below.refl _ _))).below (by rw [hw5]; exact Lib.below_grow _ _ (Nat.le_refl _) kq os)⟩
         obtain ⟨V6, w6, hr6, hlw6, hb6⟩ := conv_lw w5 w5 ⟨(Lib.itoa (n : Int)).toArray⟩ (Below.refl _ _)
         have HN6 : Aside0 (Hn w w6 hb ks ([] ++ bl (nm t) ++ [32])) := ⟨HN5.out.below hb6⟩
         obtain ⟨g6, o6, k6, n6, rfl, hn6, h86, hlt6, hne6⟩ := HN5.out.lw hlw6
         have HW6 : Aside0 (Calls Tryd.prog 59 #[.pointer (some ⟨hb, 0, none⟩), .slice (some ⟨g6, o6, none⟩) n6 k6] w6 _) := ⟨by rw [hn6]; exact hwrite HN6.out (bl ⟨(Lib.itoa (n : Int)).toArray⟩) g6 o6 k6 h86 (itoa_pos n) hlt6 hne6 (by have h1 := itoa_len n hn; have h2 := (nm_size t).1; rw [List.nil_append, List.length_append, bl_len]; simp only [List.length_singleton]; omega)⟩
         have i5 := HC5.out _ _ HN5.out
         have i6 := HC5.out _ _ HN6.out
         clear hw5 hlw6 hb6 hn6 h86 hlt6 hne6)
      | (go_simp
         go_at_call 59
         (with_reducible refine HW6.out.mono ?_)
         rintro e w7 ⟨rfl, hn7⟩
         have HN7 := Aside0.mk hn7
         have j5 := HC5.out _ _ hn7
         clear hn7)))
  all_goals (
    have HN7' : Aside0 (Hn w (w7.alloc (.cells #[.int .u8 0] 5)) hb ks ([] ++ bl (nm t) ++ [32] ++ bl ⟨(Lib.itoa (n : Int)).toArray⟩)) := ⟨HN7.out.below (below_alloc (Below.refl _ _) _)⟩
    have HW7 : Aside0 (Calls Tryd.prog 59 #[.pointer (some ⟨hb, 0, none⟩), .slice (some ⟨w7.heap.size, 0, none⟩) 1 1] (w7.alloc (.cells #[.int .u8 0] 5)) _) := ⟨hwrite HN7'.out [0] w7.heap.size 0 1 (at8_new w7 0 (by omega)) (by decide) (by show _ < (w7.heap.push _).size; simp) (fun e => by have := HN7.out.lt; omega) (by have h1 := itoa_len n hn; have h2 := (nm_size t).1; rw [List.nil_append, List.length_append, List.length_append, bl_len]; simp only [List.length_singleton]; omega)⟩
    clear HW6 HN5 HN6 i5 i6 f5 f5d HW3 HN4 hrf hr6
    go_wp2_with (first
      | (go_at_call 59
         (with_reducible refine HW7.out.mono ?_)
         rintro e w8 ⟨rfl, hn8⟩
         have HN8 := Aside0.mk hn8
         have l5 := HC5.out _ _ hn8
         have l4 := HC4.out _ _ hn8
         have l4c : w8.cell? ⟨b4, 0, none⟩ = some .nilIface := (Lib.cell_of_heap l4 0).trans rfl
         have l4f := Lib.frozen_of_heap l4 0
         clear hn8)
      | fail)
    have hR : (w8.setCell ⟨b4, 0, none⟩ (.iface 60 (.pointer (some ⟨hb, 0, none⟩)))).heap[b4]? = some (.cells #[.iface 60 (.pointer (some ⟨hb, 0, none⟩))] 42 (0, 0)) := (Lib.heap_setCell_same (i := 0) l4 _).trans rfl
    refine bodyPost_ret (results_cell_row rfl _ _ b4 42 #[.iface 60 (.pointer (some ⟨hb, 0, none⟩))] (0, 0) _ rfl hR Tryd.underlying42 rfl info42) rfl ?_
    exact ⟨hb, rfl, HN8.out.put l4 (by decide) (by decide) (Nat.le_of_eq HB4.out.symm) 0 _ (by rw [itoa_bl]; rfl)⟩)
end Go.Proofs.YthpoiceceogdhaaDoor.HshC
