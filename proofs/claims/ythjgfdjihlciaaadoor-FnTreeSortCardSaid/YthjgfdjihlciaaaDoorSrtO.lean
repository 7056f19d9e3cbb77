/- impl.SortTree, walked. -/
import Derived.Test.YthjgfdjihlciaaaDoorSrtN
import Derived.Sort.Walk0
set_option linter.unusedVariables false
set_option linter.unusedSimpArgs false
namespace Go.Proofs.YthjgfdjihlciaaaDoor.SrtO
open Go.RowKit Go.Proofs.YthjgfdjihlciaaaDoorW.PrintWords Go.Proofs.YthjgfdjihlciaaaDoorW.PrintLast Go.Proofs.YthjgfdjihlciaaaDoorW.PrintMore Go.Proofs.YthjgfdjihlciaaaDoor.QAll Ptr SrtA SrtI SrtK SrtL SrtM SrtN

theorem ltT_eq (x y : TE) : ltT x y = Go.Sort.ltStr (keyT x).toList (keyT y).toList := by
  unfold ltT Go.Sort.ltStr
  exact bytesLess_eq _ _
theorem swoT : Go.Sort.SWO ltT where
  irrefl := fun x => by rw [ltT_eq]; exact Go.Sort.swo_ltStr.irrefl _
  trans := fun x y z h1 h2 => by rw [ltT_eq] at h1 h2 ⊢; exact Go.Sort.swo_ltStr.trans _ _ _ h1 h2
  ntrans := fun x y z h1 h2 => by rw [ltT_eq] at h1 h2 ⊢; exact Go.Sort.swo_ltStr.ntrans _ _ _ h1 h2
theorem sortNone (A : Option Addr) (c : Nat) (w : World) : Calls Tryd.prog 13 #[.iface 34 (.slice A 0 c)] w fun e w' => e = .returned (.tuple #[]) ∧ w' = w := by
  have hmN := fun W => method34 foundLen 212 A 0 c W
  have hnN := fun W => nilAhead34 foundLen 212 A 0 c W
  have HLN := Aside0.mk (lenOk A 0 c)
  go_enter Tryd.func13, Tryd.ntmps13
  go_wp2_with (first | (go_at_call 60; (with_reducible refine (HLN.out _).mono ?_); rintro e w1 ⟨rfl, hw⟩; replace hw := hw.symm; subst hw))
  all_goals first
    | ((try simp only [Exit.inBlock, Exit.then]); refine bodyPost_ret (results_none rfl _ _ _) rfl ?_; exact ⟨rfl, rfl⟩)
    | (go_end0; exact ⟨rfl, rfl⟩)
theorem plainNone (A : Option Addr) (c : Nat) (w : World) : Calls Tryd.prog 14 #[.slice A 0 c] w fun e w' => e = .returned (.slice none 0 0) ∧ w' = w := by
  go_enter Tryd.func14, Tryd.ntmps14
  go_wp2
  go_loopg [3, 8] 0 (fun gk v3 v8 w' => v3 = .slice none 0 0 ∧ v8 = .int .i64 0 ∧ w' = w)
  case atStart => exact ⟨rfl, rfl, rfl⟩
  case round =>
    obtain ⟨rfl, rfl, rfl⟩ := hrel
    go_wp2
    go_ret
    exact ⟨rfl, rfl⟩
/-- A row of one's own is an array that can be sorted. -/
theorem arr_of_R {w0 w : World} {v : Value} {xs : List TE} (hR : kT.R 44 w w0.heap.size (fun _ => True) v xs) (hb : Below w0.heap.size w0 w) (hp : 0 < xs.length) (hn : ∀ x ∈ xs, x.nm.size ≤ 4096) :
    ∃ g c, v = .slice (some ⟨g, 0, none⟩) xs.length c ∧ Arr w0 w g xs.length xs.toArray := by
  obtain ⟨inner, hown⟩ := Kd.R_own hR
  have hC : ∀ A n c, v = .slice A n c → kT.C w A xs.length xs := fun A n c e => by
    subst e
    exact (Kd.R_reads' hR).2.2
  rcases hown.2 with ⟨_, h0⟩ | ⟨g, cap, cur, rfl, hge, hblk, hnc, hcm, hcs, ht⟩
  · omega
  have hCC := hC _ _ _ rfl
  have hcs' : cur.size = cap * 22 := hcs
  have key : ∀ k (hk : k < xs.length), w.rangeAt g (k * 22) (cellsT xs[k]) ∧ (xs[k]).hv.length = 20 := fun k hk => by
    obtain ⟨ad, cs, e, hl, hK, hr⟩ := Kd.C_get hCC default (k : Int) (by omega) (by omega)
    injection e with e
    subst e
    rw [Int.toNat_natCast] at hK hr
    rw [List.getD_eq_getElem?_getD, List.getElem?_eq_getElem hk] at hK
    obtain ⟨rfl, h20⟩ := hK
    refine ⟨fun j u hu => ?_, h20⟩
    have := hr j u hu
    rw [add_plain] at this
    exact this
  have bang : ∀ k (hk : k < xs.length), xs.toArray[k]! = xs[k] := fun k hk => by
    rw [getElem!_pos xs.toArray k (by simpa using hk)]
    simp
  refine ⟨g, cap, rfl, hb, hge, by simp, ⟨cur, hblk⟩, fun k hk => ?_, fun k hk j hj => ?_, fun k hk => ?_⟩
  · rw [bang k hk]
    exact (key k hk).1
  · refine ⟨?_, blk_frozen hblk _⟩
    rw [blk_cell hblk]
    have : k * 22 + j < cur.size := by
      rw [hcs']
      have : (k + 1) * 22 ≤ cap * 22 := Nat.mul_le_mul_right _ (by omega)
      omega
    rw [Array.getElem?_eq_getElem this]
    rfl
  · rw [bang k hk]
    exact ⟨(key k hk).2, hn _ (List.getElem_mem hk)⟩
theorem hb_byte (s : ByteArray) (i : Nat) : 0 ≤ hb s i ∧ hb s i < 256 := by
  unfold hb
  have := ((dec s)[i]?.getD 0).toNat_lt
  omega
theorem teOf_bytes (s : S28) : ∀ b ∈ (teOf s).hv, 0 ≤ b ∧ b < 256 := by
  intro b hb
  unfold teOf at hb
  simp only [List.mem_cons, List.not_mem_nil, or_false] at hb
  rcases hb with rfl | rfl | rfl | rfl | rfl | rfl | rfl | rfl | rfl | rfl | rfl | rfl | rfl | rfl | rfl | rfl | rfl | rfl | rfl | rfl <;> exact hb_byte _ _
theorem perm_of {d d' : Array TE} {n : Nat} (hd : d.size = n) (h : Go.Sort.PermIn 0 n d d') : d'.toList.Perm d.toList := by
  have h3 := h.2.2
  have e1 : d.extract 0 n = d := by rw [← hd]; simp
  have e2 : d'.extract 0 n = d' := by rw [← hd, ← h.1]; simp
  rwa [e1, e2] at h3
set_option maxHeartbeats 8000000 in
set_option maxRecDepth 100000 in
theorem sortTree (A0 : Option Addr) (c : Nat) (l : List S28) (ev : Value) (w : World) (hC : Kd.C k28 w A0 l.length l) (hn : l.length ≤ 1000) (hE : w.cell? ⟨0, 0, none⟩ = some ev) (hg : ∀ s ∈ l, s.f2.size = 40 ∧ (dec s.f2).length = 20) (hnm : ∀ s ∈ l, s.f0.size ≤ 4096) :
    Calls Tryd.prog 8 #[.slice A0 l.length c] w fun e w' => ∃ (v : Value) (ds : List TE), e = .returned v ∧ k28.R 28 w' w.heap.size (fun _ => True) v (ds.map plainOf) ∧ Below w.heap.size w w' ∧ ds.Perm (l.map teOf) ∧ (∀ i j (hi : i < j) (hj : j < ds.length), ltT ds[j] (ds[i]'(Nat.lt_trans hi hj)) = false) := by
  have HEN := Aside0.mk (entriesOf A0 c l ev w hC hn hE hg)
  have HN := Aside0.mk hn
  have HNM := Aside0.mk hnm
  clear hC hn hE hg hnm
  by_cases hz : l = []
  · subst hz
    have hen := HEN.out
    simp only [List.length_nil, List.map_nil] at hen
    have HEN2 := Aside0.mk hen
    clear hen
    go_enter Tryd.func8, Tryd.ntmps8
    go_wp2_with (first
      | (go_at_call 12; (with_reducible refine HEN2.out.mono ?_); rintro e w1 ⟨v1, rfl, hr1, hb1⟩; obtain ⟨A1, c1, rfl⟩ := Kd.R_slice hr1; have HB1 := Aside0.mk hb1; clear hr1 hb1)
      | (go_at_call 13; refine (sortNone _ _ _).mono ?_; rintro e w2 ⟨rfl, hw⟩; replace hw := hw.symm; subst hw)
      | (go_at_call 14; refine (plainNone _ _ _).mono ?_; rintro e w3 ⟨rfl, hw⟩; replace hw := hw.symm; subst hw))
    go_ret
    exact ⟨_, [], rfl, Kd.R_nil _ _ _ _ _, HB1.out, List.Perm.refl _, fun i j hi hj => absurd hj (Nat.not_lt_zero _)⟩
  have hp : 0 < (l.map teOf).length := by rw [List.length_map]; exact List.length_pos_iff.2 hz
  have HHV : Aside0 (∀ ds : List TE, ds.Perm (l.map teOf) → ∀ x ∈ ds, (∀ b ∈ x.hv, 0 ≤ b ∧ b < 256)) := ⟨fun ds hd x hx b hb => by
    obtain ⟨s, _, rfl⟩ := List.mem_map.1 (hd.mem_iff.1 hx)
    exact teOf_bytes s b hb⟩
  have HNT : Aside0 (∀ x ∈ l.map teOf, x.nm.size ≤ 4096) := ⟨fun x hx => by
    obtain ⟨s, hs, rfl⟩ := List.mem_map.1 hx
    exact HNM.out s hs⟩
  obtain ⟨xs, hxs⟩ : ∃ xs, xs = l.map teOf := ⟨_, rfl⟩
  have HXN : Aside0 (xs.length ≤ 1000) := ⟨by rw [hxs, List.length_map]; exact HN.out⟩
  rw [← hxs] at hp HHV HNT HEN ⊢
  clear hxs hz
  go_enter Tryd.func8, Tryd.ntmps8
  go_upto_region 2 with (first
    | (go_at_call 12; (with_reducible refine HEN.out.mono ?_); rintro e w1 ⟨v1, rfl, hr1, hb1⟩; obtain ⟨g, c1, rfl, ha1⟩ := arr_of_R hr1 hb1 hp HNT.out; have HA1 := Aside0.mk ha1; clear hr1 hb1 ha1))
  have HSS := Aside0.mk (sortSort (sorter w g xs.length c1 HXN.out) swoT xs.toArray w1 HA1.out)
  go_upto_region 3 with (first
    | (go_at_call 13; (with_reducible refine HSS.out.mono ?_); rintro e w2 ⟨rfl, d', ha2, hp2, hs2⟩; have HA2 := Aside0.mk ha2; have HP2 : Aside0 (d'.toList.Perm xs) := ⟨perm_of (by simp) hp2⟩; have HS2 := Aside0.mk hs2; clear ha2 hp2 hs2))
  have HPL := Aside0.mk (plainEntries w w2 g xs.length c1 d' HA2.out HXN.out (fun k hk b hb => HHV.out _ HP2.out _ (by
    have hk2 : k < d'.size := by rw [HA2.out.sz]; exact hk
    rw [getElem!_pos d' k hk2]
    exact Array.getElem_mem_toList hk2) b hb))
  go_wp2_with (first
    | (go_at_call 14; (with_reducible refine HPL.out.mono ?_); rintro e w3 ⟨v3, rfl, hr3, hb3⟩; have HR3 := Aside0.mk hr3; have HB3 := Aside0.mk hb3; clear hr3 hb3))
  go_ret
  refine ⟨v3, d'.toList, rfl, Kd.R_lower HR3.out HA2.out.b.size, HA2.out.b.trans (HB3.out.mono HA2.out.b.size), HP2.out, fun i j hi hj => ?_⟩
  have hj2 : j < d'.size := by simpa using hj
  have := HS2.out i j (Nat.zero_le _) hi (by rw [← HA2.out.sz]; exact hj2)
  rw [getElem!_pos d' j hj2, getElem!_pos d' i (by omega)] at this
  simpa using this
#print axioms sortTree
end Go.Proofs.YthjgfdjihlciaaaDoor.SrtO
