/- impl.plainEntries, walked. -/
import Derived.Test.YthjgfdjihlciaaaDoorSrtM
set_option linter.unusedVariables false
set_option linter.unusedSimpArgs false
namespace Go.Proofs.YthjgfdjihlciaaaDoor.SrtN
open Go.RowKit Go.Proofs.YthjgfdjihlciaaaDoorW.PrintWords Go.Proofs.YthjgfdjihlciaaaDoorW.PrintLast Go.Proofs.YthjgfdjihlciaaaDoorW.PrintMore Go.Proofs.YthjgfdjihlciaaaDoor.QAll Ptr SrtK SrtL SrtM

/-- An entry as it is told. -/
def plainOf (x : TE) : S28 := ⟨x.nm, x.md, ⟨(Go.Lib.Hx.encode (Go.Lib.bytesOf x.hv)).toArray⟩⟩
theorem size41 : (Tryd.prog.info? 41).map (·.size) = some (20 : Nat) := by kernel_rfl
theorem list20 (l : List Int) (h : l.length = 20) : ∃ hv : Nat → Int, l = (List.range 20).map hv := by
  refine ⟨fun i => l.getD i 0, List.ext_getElem (by simp [h]) (fun i h1 h2 => ?_)⟩
  rw [List.getElem_map, List.getElem_range, List.getD_eq_getElem?_getD, List.getElem?_eq_getElem h1]
  rfl
theorem size22 : (Tryd.prog.info? 44).map (·.size) = some (22 : Nat) := by kernel_rfl
theorem one22 (nm : ByteArray) (md : Int) (hv : Nat → Int) : ∀ v ∈ (#[.string nm, .int .u32 md, .int .u8 (hv 0), .int .u8 (hv 1), .int .u8 (hv 2), .int .u8 (hv 3), .int .u8 (hv 4), .int .u8 (hv 5), .int .u8 (hv 6), .int .u8 (hv 7), .int .u8 (hv 8), .int .u8 (hv 9), .int .u8 (hv 10), .int .u8 (hv 11), .int .u8 (hv 12), .int .u8 (hv 13), .int .u8 (hv 14), .int .u8 (hv 15), .int .u8 (hv 16), .int .u8 (hv 17), .int .u8 (hv 18), .int .u8 (hv 19)] : Array Value).toList, v.oneCell' = true := by
  intro v hv2
  have : v ∈ Value.string nm :: Value.int .u32 md :: hcells hv := hv2
  rcases List.mem_cons.1 this with rfl | this
  · rfl
  · rcases List.mem_cons.1 this with rfl | this
    · rfl
    · exact hcells_one hv v this
def pl5.T5 : Bool × List (List Nat × List Nat) := (true, [([], []), ([], []), ([1], [1]), ([], []), ([3], [3]), ([], []), ([5], [5]), ([6], [6]), ([2, 4, 7], [2, 4, 7]), ([8], [8]), ([0, 9, 7], [0, 9]), ([10, 10, 0, 1, 2, 3, 4, 5, 6, 7, 8, 9, 10], [0, 10])])
def pl5.B5 : List Nat := [0, 0, 2, 0, 8, 0, 32, 96, 254, 510, 1023, 2047]
theorem pl5.tab5 : rtab .any (opsOf Tryd.f14 5) = pl5.T5 := by kernel_rfl
theorem pl5.bits5 : waitsOk pl5.T5.2 pl5.B5 = true := by kernel_rfl

set_option maxHeartbeats 16000000 in
set_option maxRecDepth 100000 in
theorem plainEntries (w0 w : World) (g n c : Nat) (d : Array TE) (h : Arr w0 w g n d) (hn : n ≤ 1000) (hr : ∀ k, k < n → ∀ b ∈ (d[k]!).hv, 0 ≤ b ∧ b < 256) :
    Calls Tryd.prog 14 #[.slice (some ⟨g, 0, none⟩) n c] w fun e w' => ∃ v, e = .returned v ∧ k28.R 28 w' w.heap.size (fun _ => True) v (d.toList.map plainOf) ∧ Below w.heap.size w w' := by
  have HA := Aside0.mk h
  have HN := Aside0.mk hn
  have HR0 := Aside0.mk hr
  have HDS : Aside0 (d.toList.length = n) := ⟨by rw [Array.length_toList]; exact h.sz⟩
  have hu28 := Tryd.underlying28
  have hu44 := Tryd.underlying44
  clear h hn hr
  go_enter Tryd.func14, Tryd.ntmps14
  go_wp2
  go_loopg [3, 8] n (fun gk v3 v8 w' => ∃ (k : Nat) (V : Value), v3 = V ∧ v8 = .int .i64 (k : Int) ∧ Aside0 (k + gk = n) ∧ Aside0 (Below w.heap.size w w') ∧ Aside0 (k28.R 28 w' w.heap.size (fun _ => True) V ((d.toList.take k).map plainOf)))
  case atStart => exact ⟨0, .slice none 0 0, rfl, rfl, ⟨by omega⟩, ⟨Below.refl _ _⟩, ⟨Kd.R_nil _ _ _ _ _⟩⟩
  case round =>
    obtain ⟨k, V, hV, rfl, HK, HB, HR⟩ := hrel
    replace hV := hV.symm
    subst hV
    by_cases hlt : k < n
    rotate_left
    · have hkn : k = n := by have := HK.out; omega
      have hR := HR.out
      rw [hkn, ← HDS.out, List.take_length] at hR
      have HR2 := Aside0.mk hR
      clear hR
      go_wp2
      go_ret
      exact ⟨V, rfl, HR2.out, HB.out⟩
    obtain ⟨g0, rfl⟩ : ∃ m, gk = m + 1 := ⟨gk - 1, by have := HK.out; omega⟩
    have hk1 : (k : Int) < (n : Int) := by omega
    have hk2 : (k : Int) < 1001 := by have := HN.out; omega
    have HAR := Aside0.mk (HA.out.below HB.out)
    have hrg := HAR.out.at_ k hlt
    have hok := HA.out.ok k hlt
    have hby := HR0.out k hlt
    have HTK : Aside0 ((d.toList.take (k + 1)).map plainOf = (d.toList.take k).map plainOf ++ [plainOf d[k]!]) := ⟨by
      have hl : k < d.toList.length := by rw [HDS.out]; exact hlt
      have e : d.toList[k] = d[k]! := by
        rw [Array.getElem_toList, getElem!_pos d k (by simpa using hl)]
      rw [List.take_succ_eq_append_getElem hl, List.map_append, e]
      rfl⟩
    obtain ⟨hv, hhv⟩ := list20 _ hok.h
    generalize hxk : d[k]! = x at hrg hok hby HTK hhv
    obtain ⟨nm, md, hl⟩ := x
    dsimp only at hhv hby hok
    subst hhv
    have hrg' : wr.rangeAt g (k * 22) [.string nm, .int .u32 md, .int .u8 (hv 0), .int .u8 (hv 1), .int .u8 (hv 2), .int .u8 (hv 3), .int .u8 (hv 4), .int .u8 (hv 5), .int .u8 (hv 6), .int .u8 (hv 7), .int .u8 (hv 8), .int .u8 (hv 9), .int .u8 (hv 10), .int .u8 (hv 11), .int .u8 (hv 12), .int .u8 (hv 13), .int .u8 (hv 14), .int .u8 (hv 15), .int .u8 (hv 16), .int .u8 (hv 17), .int .u8 (hv 18), .int .u8 (hv 19)] := hrg
    have HRG := Aside0.mk hrg'
    have HG : Aside0 (∀ i, i < 20 → 0 ≤ hv i ∧ hv i < 256) := ⟨fun i hi => hby (hv i) (List.mem_map.2 ⟨i, List.mem_range.2 hi, rfl⟩)⟩
    have HWK : Aside0 (wrap64 ((k : Int) + 1) = ((k + 1 : Nat) : Int)) := ⟨by unfold wrap64; omega⟩
    have HPL : Aside0 (plainOf ⟨nm, md, (List.range 20).map hv⟩ = ⟨nm, md, hexOf hv⟩) := ⟨rfl⟩
    have HNL : Aside0 (nm.size ≤ 4096) := ⟨hok.n⟩
    have HNEW : Aside0 ((wr.alloc (.cells #[.string ⟨#[]⟩, .int .u32 0, .int .u8 0, .int .u8 0, .int .u8 0, .int .u8 0, .int .u8 0, .int .u8 0, .int .u8 0, .int .u8 0, .int .u8 0, .int .u8 0, .int .u8 0, .int .u8 0, .int .u8 0, .int .u8 0, .int .u8 0, .int .u8 0, .int .u8 0, .int .u8 0, .int .u8 0, .int .u8 0] 44)).heap[wr.heap.size]? = some (.cells #[.string ⟨#[]⟩, .int .u32 0, .int .u8 0, .int .u8 0, .int .u8 0, .int .u8 0, .int .u8 0, .int .u8 0, .int .u8 0, .int .u8 0, .int .u8 0, .int .u8 0, .int .u8 0, .int .u8 0, .int .u8 0, .int .u8 0, .int .u8 0, .int .u8 0, .int .u8 0, .int .u8 0, .int .u8 0, .int .u8 0] 44 (0, 0))) := ⟨blk_new _ _⟩
    clear hrg hrg' hok hby hxk
    go_upto_region 5 with (first
      | ((with_reducible refine gate_dst (N := 11) rfl ?_); refine wpList_load_mid rfl 44 (.tmp 10) rfl g (k * 22) ?hx [.string nm, .int .u32 md, .int .u8 (hv 0), .int .u8 (hv 1), .int .u8 (hv 2), .int .u8 (hv 3), .int .u8 (hv 4), .int .u8 (hv 5), .int .u8 (hv 6), .int .u8 (hv 7), .int .u8 (hv 8), .int .u8 (hv 9), .int .u8 (hv 10), .int .u8 (hv 11), .int .u8 (hv 12), .int .u8 (hv 13), .int .u8 (hv 14), .int .u8 (hv 15), .int .u8 (hv 16), .int .u8 (hv 17), .int .u8 (hv 18), .int .u8 (hv 19)] _ HRG.out Tryd.underlying44 rfl size22 ?_
         case hx => first | rfl | (simp [Act.eval]; done) | (go_simp; done))
      | ((with_reducible refine gate_store (p := 5) rfl ?_); refine wpList_put_row rfl 44 5 (.tmp 11) rfl rfl wr.heap.size 44 #[.string ⟨#[]⟩, .int .u32 0, .int .u8 0, .int .u8 0, .int .u8 0, .int .u8 0, .int .u8 0, .int .u8 0, .int .u8 0, .int .u8 0, .int .u8 0, .int .u8 0, .int .u8 0, .int .u8 0, .int .u8 0, .int .u8 0, .int .u8 0, .int .u8 0, .int .u8 0, .int .u8 0, .int .u8 0, .int .u8 0] #[.string nm, .int .u32 md, .int .u8 (hv 0), .int .u8 (hv 1), .int .u8 (hv 2), .int .u8 (hv 3), .int .u8 (hv 4), .int .u8 (hv 5), .int .u8 (hv 6), .int .u8 (hv 7), .int .u8 (hv 8), .int .u8 (hv 9), .int .u8 (hv 10), .int .u8 (hv 11), .int .u8 (hv 12), .int .u8 (hv 13), .int .u8 (hv 14), .int .u8 (hv 15), .int .u8 (hv 16), .int .u8 (hv 17), .int .u8 (hv 18), .int .u8 (hv 19)] rfl rfl HNEW.out rfl size22 (one22 nm md hv) ?_))
    rw [setRow_new]
    have hg0 : (wr.alloc (.cells #[.string nm, .int .u32 md, .int .u8 (hv 0), .int .u8 (hv 1), .int .u8 (hv 2), .int .u8 (hv 3), .int .u8 (hv 4), .int .u8 (hv 5), .int .u8 (hv 6), .int .u8 (hv 7), .int .u8 (hv 8), .int .u8 (hv 9), .int .u8 (hv 10), .int .u8 (hv 11), .int .u8 (hv 12), .int .u8 (hv 13), .int .u8 (hv 14), .int .u8 (hv 15), .int .u8 (hv 16), .int .u8 (hv 17), .int .u8 (hv 18), .int .u8 (hv 19)] 44)).heap[wr.heap.size]? = some (.cells #[.string nm, .int .u32 md, .int .u8 (hv 0), .int .u8 (hv 1), .int .u8 (hv 2), .int .u8 (hv 3), .int .u8 (hv 4), .int .u8 (hv 5), .int .u8 (hv 6), .int .u8 (hv 7), .int .u8 (hv 8), .int .u8 (hv 9), .int .u8 (hv 10), .int .u8 (hv 11), .int .u8 (hv 12), .int .u8 (hv 13), .int .u8 (hv 14), .int .u8 (hv 15), .int .u8 (hv 16), .int .u8 (hv 17), .int .u8 (hv 18), .int .u8 (hv 19)] 44 (0, 0)) := blk_new _ _
    have HBA : Aside0 (Below w.heap.size w (wr.alloc (.cells #[.string nm, .int .u32 md, .int .u8 (hv 0), .int .u8 (hv 1), .int .u8 (hv 2), .int .u8 (hv 3), .int .u8 (hv 4), .int .u8 (hv 5), .int .u8 (hv 6), .int .u8 (hv 7), .int .u8 (hv 8), .int .u8 (hv 9), .int .u8 (hv 10), .int .u8 (hv 11), .int .u8 (hv 12), .int .u8 (hv 13), .int .u8 (hv 14), .int .u8 (hv 15), .int .u8 (hv 16), .int .u8 (hv 17), .int .u8 (hv 18), .int .u8 (hv 19)] 44))) := ⟨below_alloc HB.out _⟩
    have HRA : Aside0 (k28.R 28 (wr.alloc (.cells #[.string nm, .int .u32 md, .int .u8 (hv 0), .int .u8 (hv 1), .int .u8 (hv 2), .int .u8 (hv 3), .int .u8 (hv 4), .int .u8 (hv 5), .int .u8 (hv 6), .int .u8 (hv 7), .int .u8 (hv 8), .int .u8 (hv 9), .int .u8 (hv 10), .int .u8 (hv 11), .int .u8 (hv 12), .int .u8 (hv 13), .int .u8 (hv 14), .int .u8 (hv 15), .int .u8 (hv 16), .int .u8 (hv 17), .int .u8 (hv 18), .int .u8 (hv 19)] 44)) w.heap.size (fun _ => True) V ((d.toList.take k).map plainOf)) := ⟨Kd.R_below HR.out (below_alloc (Below.refl _ _) _)⟩
    generalize wr.alloc (.cells #[.string nm, .int .u32 md, .int .u8 (hv 0), .int .u8 (hv 1), .int .u8 (hv 2), .int .u8 (hv 3), .int .u8 (hv 4), .int .u8 (hv 5), .int .u8 (hv 6), .int .u8 (hv 7), .int .u8 (hv 8), .int .u8 (hv 9), .int .u8 (hv 10), .int .u8 (hv 11), .int .u8 (hv 12), .int .u8 (hv 13), .int .u8 (hv 14), .int .u8 (hv 15), .int .u8 (hv 16), .int .u8 (hv 17), .int .u8 (hv 18), .int .u8 (hv 19)] 44) = wa at hg0 HBA HRA ⊢
    obtain ⟨gc, hgc⟩ : ∃ gc, gc = wr.heap.size := ⟨_, rfl⟩
    rw [← hgc] at hg0
    simp only [← hgc]
    clear hgc
    have q0 : Below w.heap.size w wa.drew ∧ k28.R 28 wa.drew w.heap.size (fun _ => True) V ((d.toList.take k).map plainOf) := ⟨HBA.out.trans ((below_drew1 (Below.refl _ _)).mono HBA.out.size), Kd.R_below HRA.out (below_drew1 (Below.refl _ _))⟩
    have q1 : wa.drew.cell? ⟨gc, 0, none⟩ = some (.string nm) := (blk_cell hg0 0).trans rfl
    have q2 : wa.drew.cell? ⟨gc, 1, none⟩ = some (.int .u32 md) := (blk_cell hg0 1).trans rfl
    have q3 : wa.drew.rangeAt gc 2 (hcells hv) := fun j v hj => by
      refine (blk_cell hg0 (2 + j)).trans ?_
      have h2 : (Value.string nm :: Value.int .u32 md :: hcells hv)[2 + j]? = some v := by rw [Nat.add_comm 2 j]; exact hj
      show (Value.string nm :: Value.int .u32 md :: hcells hv).toArray[2 + j]? = _
      rw [List.getElem?_toArray]
      exact h2
    clear hg0
    refine start_ (n := 12) (S := fun w' => (Below w.heap.size w w' ∧ k28.R 28 w' w.heap.size (fun _ => True) V ((d.toList.take k).map plainOf)) ∧ w'.cell? ⟨gc, 0, none⟩ = some (.string nm) ∧ w'.cell? ⟨gc, 1, none⟩ = some (.int .u32 md) ∧ w'.rangeAt gc 2 (hcells hv)) (ds := [10]) #[false, false, false, false, false, false, false, false, false, false, false, false] (by kernel_rfl) rfl rfl ⟨q0, q1, q2, q3⟩ (fun hHeld => ?_)
    refine with_tabW pl5.tab5 pl5.bits5 (fun HT_ HW_ => ?_)
    generalize World.drew _ = wd at hHeld ⊢
    refine pure_ (i := 0) (N := some 12) (v := ?_) (a' := ?_) #[true, false, false, false, false, false, false, false, false, false, false, false] rfl rfl (any_of HT_.out (by kernel_rfl)) (fun _ _ _ h => h) (Or.inl ⟨by rfl, ?_⟩) ?_ ?_
    rotate_left
    · intro w'
      go_simp
      with_reducible rfl
    rotate_left
    · simp only [Act.put, List.setIfInBounds_toArray, List.set_cons_zero, List.set_cons_succ, i64_w, i32_w]
      rfl
    refine pure_ (i := 1) (N := some 13) (v := ?_) (a' := ?_) #[true, true, false, false, false, false, false, false, false, false, false, false] rfl rfl (any_of HT_.out (by kernel_rfl)) (fun _ _ _ h => h) (Or.inl ⟨by rfl, ?_⟩) ?_ ?_
    rotate_left
    · intro w'
      go_simp
      with_reducible rfl
    rotate_left
    · simp only [Act.put, List.setIfInBounds_toArray, List.set_cons_zero, List.set_cons_succ, i64_w, i32_w]
      rfl
    refine pure_ (i := 3) (N := some 15) (v := ?_) (a' := ?_) #[true, true, false, true, false, false, false, false, false, false, false, false] rfl rfl (any_of HT_.out (by kernel_rfl)) (fun _ _ _ h => h) (Or.inl ⟨by rfl, ?_⟩) ?_ ?_
    rotate_left
    · intro w'
      go_simp
      with_reducible rfl
    rotate_left
    · simp only [Act.put, List.setIfInBounds_toArray, List.set_cons_zero, List.set_cons_succ, i64_w, i32_w]
      rfl
    refine pure_ (i := 5) (N := some 17) (v := ?_) (a' := ?_) #[true, true, false, true, false, true, false, false, false, false, false, false] rfl rfl (any_of HT_.out (by kernel_rfl)) (fun _ _ _ h => h) (Or.inl ⟨by rfl, ?_⟩) ?_ ?_
    rotate_left
    · intro w'
      go_simp
      with_reducible rfl
    rotate_left
    · simp only [Act.put, List.setIfInBounds_toArray, List.set_cons_zero, List.set_cons_succ, i64_w, i32_w]
      rfl
    refine take_ (i := 2) (N := some 14) (v := ?_) (a' := ?_) #[true, true, true, true, false, true, false, false, false, false, false, false] rfl rfl (take_ofW HT_.out HW_.out (by kernel_rfl)) (fun _ _ _ h => h) (Or.inl ⟨by rfl, ?_⟩) hHeld ?_ ?_
    rotate_left
    · rintro w' ⟨s0, s1, s2, s3⟩
      go_simp
      with_reducible rfl
    rotate_left
    · simp only [Act.put, List.setIfInBounds_toArray, List.set_cons_zero, List.set_cons_succ, i64_w, i32_w]
      rfl
    refine take_ (i := 4) (N := some 16) (v := ?_) (a' := ?_) #[true, true, true, true, true, true, false, false, false, false, false, false] rfl rfl (take_ofW HT_.out HW_.out (by kernel_rfl)) (fun _ _ _ h => h) (Or.inl ⟨by rfl, ?_⟩) hHeld ?_ ?_
    rotate_left
    · rintro w' ⟨s0, s1, s2, s3⟩
      go_simp
      with_reducible rfl
    rotate_left
    · simp only [Act.put, List.setIfInBounds_toArray, List.set_cons_zero, List.set_cons_succ, i64_w, i32_w]
      rfl
    refine take_ (i := 6) (N := some 18) (v := ?_) (a' := ?_) #[true, true, true, true, true, true, true, false, false, false, false, false] rfl rfl (take_ofW HT_.out HW_.out (by kernel_rfl)) (fun _ _ _ h => h) (Or.inl ⟨by rfl, ?_⟩) hHeld ?_ ?_
    rotate_left
    · rintro w' ⟨s0, s1, s2, s3⟩
      refine exec_load_mid 41 (.tmp 17) ?ho gc 2 ?hx (hcells hv) _ s3 Tryd.underlying41 rfl size41
      case ho => rfl
      case hx => first | rfl | (simp [Act.eval]; done) | (go_simp; done)
    rotate_left
    · simp only [Act.put, List.setIfInBounds_toArray, List.set_cons_zero, List.set_cons_succ, i64_w, i32_w]
      rfl
    refine one_ (i := 7) (N := some 19) #[true, true, true, true, true, true, true, true, false, false, false, false] rfl rfl (one_of HT_.out (by kernel_rfl)) (by decide) (fun K hK => ?_)
    refine goes_ Tryd.func21 (by kernel_rfl) rfl #[.agg #[.int .u8 (hv 0), .int .u8 (hv 1), .int .u8 (hv 2), .int .u8 (hv 3), .int .u8 (hv 4), .int .u8 (hv 5), .int .u8 (hv 6), .int .u8 (hv 7), .int .u8 (hv 8), .int .u8 (hv 9), .int .u8 (hv 10), .int .u8 (hv 11), .int .u8 (hv 12), .int .u8 (hv 13), .int .u8 (hv 14), .int .u8 (hv 15), .int .u8 (hv 16), .int .u8 (hv 17), .int .u8 (hv 18), .int .u8 (hv 19)]] (by rfl) rfl rfl (by simp only [List.map_toArray, List.map_cons, List.map_nil]; rfl) ?_
    with_reducible refine ((hashString hv (hexOf hv) rfl HG.out _)).mono ?_
    rintro e w7 ⟨rfl, hb7⟩
    refine ⟨_, rfl, ?_⟩
    refine hK.out _ _ ⟨⟨hHeld.1.1.trans (hb7.mono hHeld.1.1.size), Kd.R_below hHeld.1.2 hb7⟩, (pw_cell_below hb7 hHeld.2.1), (pw_cell_below hb7 hHeld.2.2.1), (fun j v hj => pw_cell_below hb7 (hHeld.2.2.2 j v hj))⟩ (fun hHeld => ?_)
    clear hK K
    refine norm_ (a' := ?_) ?_ ?_
    rotate_left
    · show Act.put _ (some 19) _ = _
      simp only [Act.put, List.setIfInBounds_toArray, List.set_cons_zero, List.set_cons_succ, i64_w, i32_w]
      rfl
    refine pure_ (i := 8) (N := some 20) (v := ?_) (a' := ?_) #[true, true, true, true, true, true, true, true, true, false, false, false] rfl rfl (any_of HT_.out (by kernel_rfl)) (fun _ _ _ h => h) (Or.inl ⟨by rfl, ?_⟩) ?_ ?_
    rotate_left
    · intro w'
      go_simp
      with_reducible rfl
    rotate_left
    · simp only [Act.put, List.setIfInBounds_toArray, List.set_cons_zero, List.set_cons_succ, i64_w, i32_w]
      rfl
    refine one_ (i := 9) (N := some 21) #[true, true, true, true, true, true, true, true, true, true, false, false] rfl rfl (one_of HT_.out (by kernel_rfl)) (by decide) (fun K hK => ?_)
    have HS9 := Aside0.mk hHeld.1
    refine value_ (w1 := ?_) (v := ?_) (by rfl) rfl ?_ ?_
    rotate_left 2
    · go_simp
      constructor
      · rfl
      · rfl
    refine hK.out _ _ ⟨⟨hHeld.1.1.trans ((below_alloc (Below.refl _ _) _).mono hHeld.1.1.size), Kd.R_below hHeld.1.2 (below_alloc (Below.refl _ _) _)⟩, (pw_cell_below (below_alloc (Below.refl _ _) _) hHeld.2.1), (pw_cell_below (below_alloc (Below.refl _ _) _) hHeld.2.2.1), (World.rangeAt_alloc hHeld.2.2.2 _)⟩ (fun hHeld => ?_)
    clear hK K
    refine norm_ (a' := ?_) ?_ ?_
    rotate_left
    · show Act.put _ (some 21) _ = _
      simp only [Act.put, List.setIfInBounds_toArray, List.set_cons_zero, List.set_cons_succ, i64_w, i32_w]
      rfl
    refine last_ (i := 10) (N := some 22) #[true, true, true, true, true, true, true, true, true, true, true, false] rfl rfl (one_of HT_.out (by kernel_rfl)) (by decide) (fun K hK => ?_)
    refine Kd.R_append_step k28 (w0 := w) w.heap.size (by rfl) (.tmp 12) (.tmp 21) 22 28 (.agg #[.string ⟨#[]⟩, .int .u32 0, .string ⟨#[]⟩]) 40 rfl Tryd.underlying22 info28 rfl (by decide) (by decide) V ((d.toList.take k).map plainOf) ⟨nm, md, hexOf hv⟩ [.string nm, .int .u32 md, .string (hexOf hv)] (fun _ => True) (fun _ => False) rfl ?hx (k28_mkM _ _ _ _) (fun _ h => h.elim) (fun _ _ => trivial) HS9.out.2 HS9.out.1 HS9.out.1.size ?hlen ?_
    case hx => first | (go_simp; done) | (simp [Act.eval]; done)
    case hlen => rw [List.length_map, List.length_take]; have := HN.out; have := HDS.out; omega
    intro v9 w9 ho9 hb9 hg9 hat9
    have HR9 := Aside0.mk ho9
    have HB9 := Aside0.mk hb9
    clear ho9 hb9 hg9 hat9
    refine hK.out _ _ ?_
    clear hK K
    refine norm_ (a' := ?_) ?_ ?_
    rotate_left
    · show Act.put _ (some 22) _ = _
      simp only [Act.put, List.setIfInBounds_toArray, List.set_cons_zero, List.set_cons_succ, i64_w, i32_w]
      rfl
    refine pure_ (i := 11) (N := some 3) (v := ?_) (a' := ?_) #[true, true, true, true, true, true, true, true, true, true, true, true] rfl rfl (any_of HT_.out (by kernel_rfl)) (fun _ _ _ h => h) (Or.inl ⟨by rfl, ?_⟩) ?_ ?_
    rotate_left
    · intro w'
      go_simp
      with_reducible rfl
    rotate_left
    · simp only [Act.put, List.setIfInBounds_toArray, List.set_cons_zero, List.set_cons_succ, i64_w, i32_w]
      rfl
    refine done_ (done_of HT_.out (by kernel_rfl)) ?_
    go_wp2
    go_roundg g0
    case measure => omega
    case rel => exact ⟨k + 1, v9, rfl, by first | rfl | rw [HWK.out] | (push_cast; rfl), ⟨by have := HK.out; omega⟩, HB9, ⟨by rw [HTK.out, HPL.out]; exact HR9.out⟩⟩
#print axioms plainEntries
end Go.Proofs.YthjgfdjihlciaaaDoor.SrtN
