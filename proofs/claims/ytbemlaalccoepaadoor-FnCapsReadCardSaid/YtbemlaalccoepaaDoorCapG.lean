/- capability.List.Delete: what it does to the state. capability.List.Delete, walked. -/
import Derived.Test.YtbemlaalccoepaaDoorCapF
import Derived.Deep.RegionLaw
set_option linter.unusedVariables false
set_option linter.unusedSimpArgs false
namespace Go.Proofs.YtbemlaalccoepaaDoor.CapG
open Go.RowKit Go.Proofs.YtbemlaalccoepaaDoorW.PrintWords Go.Proofs.YtbemlaalccoepaaDoorW.PrintLast Go.Proofs.YtbemlaalccoepaaDoorW.PrintMore Go.Proofs.YtbemlaalccoepaaDoor.QAll Txt SMap CapA Ptr CapB CapC CapD CapE CapF

def tagDel (G : Nat → Nat) (j N : Nat) : Nat → Nat := fun k => if G k ≤ j then G k else if G k = j + 1 then N else G k - 1
theorem mem_erase {L : List Ent} {j : Nat} {e : Ent} (h : e ∈ L.eraseIdx j) : e ∈ L := List.mem_of_mem_eraseIdx h
theorem LSt.del {w : World} {b0 lb mb : Nat} {G : Nat → Nat} {L : List Ent} {V : Value} {ns : List ByteArray} (h : LSt w b0 lb mb G L V ns) {j : Nat} {e : Ent} (hj : L[j]? = some e) :
    ∃ w', (∀ ty, (Builtin.delete_ #[64, 44] ty #[.map (some mb), .string e.n]).run Tryd.prog w = .ok (.tuple #[]) w') ∧ LSt w' b0 lb mb (tagDel G j (L.length + 5)) (L.eraseIdx j) V ns ∧ Below b0 w w' ∧ Keep3 w w' ∧ w'.heap.size = w.heap.size := by
  obtain ⟨w', hrun, hm, hf⟩ := run_del (P := Tryd.prog) Tryd.underlying64 Tryd.underlying44 h.hm (s := e.n) j (fun i p hi hp => by
    rw [List.getElem?_map, Option.map_eq_some_iff] at hi
    obtain ⟨x, hx, rfl⟩ := hi
    exact inj_at Ent.n h.nd hx hj hp) ⟨e.p, List.mem_map.2 ⟨e, List.mem_of_getElem? hj, rfl⟩, rfl⟩
  have hne : ∀ (g t : Nat) (cs : Array Value), w.heap[g]? = some (.cells cs t (0, 0)) → w'.heap[g]? = some (.cells cs t (0, 0)) := fun g t cs hg => (hf.blk g (h.hm.ne hg)).trans hg
  have hmv : ∀ (ok : Nat → Prop) (v : Value) (xs : List ByteArray), Kd.string.R 9 w b0 ok v xs → Kd.string.R 9 w' b0 ok v xs := by
    intro ok v xs hR
    refine Kd.R_mono (Kd.R_move (Kd.R_bound hR) (fun k hk => ?_)) (fun k hk => hk.1)
    obtain ⟨_, _, _, q, _, cells, hq⟩ := hk
    exact hf.blk k (h.hm.ne hq)
  have sub : ∀ {α : Type} (f : Ent → α), (L.map f).Nodup → ((L.eraseIdx j).map f).Nodup := fun f hn => hn.sublist ((List.eraseIdx_sublist L j).map f)
  refine ⟨w', hrun, ⟨hne _ _ _ h.hl, h.hlb, h.hmb, by rw [eraseIdx_map']; exact hm, Kd.R_mono (hmv _ _ _ h.hs) (fun k hk => ?_), fun x hx => ⟨hne _ _ _ (h.hc x (mem_erase hx)).1, (h.hc x (mem_erase hx)).2⟩, fun i x hi => ?_, sub _ h.nd, sub _ h.bd⟩, ⟨hf.os, hf.tape, hf.output, by have := hf.size; have := h.lb_lt; have := h.hlb; omega, fun k hk => hf.blk k (by have := h.hmb; omega)⟩, fun k cs t fr hk _ _ _ => hf.blk k (h.hm.ne hk), hf.size⟩
  · show tagDel G j (L.length + 5) k = 0
    unfold tagDel
    rw [if_pos (by omega), hk]
  · rw [List.getElem?_eraseIdx] at hi
    split at hi
    · rename_i q
      refine Kd.R_mono (hmv _ _ _ (h.he i x hi)) (fun k hk => ?_)
      show tagDel G j (L.length + 5) k = i + 1
      unfold tagDel
      rw [if_pos (by omega), hk]
    · rename_i q
      refine Kd.R_mono (hmv _ _ _ (h.he (i + 1) x hi)) (fun k hk => ?_)
      show tagDel G j (L.length + 5) k = i + 1
      unfold tagDel
      rw [if_neg (by omega), if_neg (by omega), hk]
      omega
theorem encs_erase (xs : List ByteArray) (i : Nat) : (encs Value.string xs).eraseIdx i = encs Value.string (xs.eraseIdx i) := by
  unfold encs
  exact (eraseIdx_map' _ _ _).symm
/-- append(xs[:i], xs[i+1:]...) -/
theorem cut_row {w : World} {b0 g n cap : Nat} {ok : Nat → Prop} {xs : List ByteArray} (hR : Kd.string.R 9 w b0 ok (.slice (some ⟨g, 0, none⟩) n cap) xs) (i : Nat) (hi : i < n) (hn : xs.length = n) (ad : Addr) (had : ad = ⟨g, i + 1, none⟩ ∨ n = i + 1) (c : Nat) :
    ∃ w', (∀ ty, (Builtin.append_ #[25, 25] ty #[.slice (some ⟨g, 0, none⟩) i cap, .slice (some ad) (n - (i + 1)) c]).run Tryd.prog w = .ok (.slice (some ⟨g, 0, none⟩) (i + (n - (i + 1))) cap) w') ∧ Kd.string.R 9 w' b0 ok (.slice (some ⟨g, 0, none⟩) (i + (n - (i + 1))) cap) (xs.eraseIdx i) ∧ w.grownBy w' (some g) := by
  have ho := Kd.own_of_R (xs := xs) hR
  rcases ho.2 with ⟨he, _⟩ | ⟨g', cap', cur, he, hbg, hg, hnc, hcm, hcs, htk⟩
  · cases he
  rw [hn] at he hnc htk
  cases he
  rw [Nat.mul_one] at htk hcs
  have hel : (encs Value.string xs).length = n := by rw [encs_length, hn]
  have hnl : ((encs Value.string xs).drop (i + 1)).length = n - (i + 1) := by rw [List.length_drop, hel]
  obtain ⟨i0, hi0, hz0⟩ := Option.map_eq_some_iff.1 CapE.info9
  simp only [Prod.mk.injEq] at hz0
  have hsz : i0.size = 1 := hz0.2.1
  have h1 : ∀ u ∈ (encs Value.string xs).drop (i + 1), u.oneCell' = true := by
    intro u hu
    obtain ⟨x, _, rfl⟩ := List.mem_map.1 (List.mem_of_mem_drop hu)
    rfl
  have hnews : ∀ j u, ((encs Value.string xs).drop (i + 1))[j]? = some u → w.cell? (ad.add j) = some u := by
    intro j u hu
    have hj : j < n - (i + 1) := by
      have := (List.getElem?_eq_some_iff.1 hu).1
      rwa [hnl] at this
    rcases had with rfl | hq
    · rw [Addr.add_lit, blk_cell hg, ← Array.getElem?_toList]
      rw [List.getElem?_drop, ← htk, List.getElem?_take_of_lt (by omega)] at hu
      exact hu
    · omega
  have hcl : cur.toList.length = cap := by rw [Array.length_toList]; exact hcs
  refine ⟨w.setRow g (cur.toList.take (i * i0.size) ++ (encs Value.string xs).drop (i + 1) ++ cur.toList.drop (i * i0.size + ((encs Value.string xs).drop (i + 1)).length)).toArray, fun ty => ?_, ?_, ?_⟩
  · exact run_append_room (P := Tryd.prog) w 25 ty 9 i0 Tryd.underlying25 hi0 g i cap cur hg ad (n - (i + 1)) c _ (by rw [hnl, hsz, Nat.mul_one]) hnews h1 (by omega) (by rw [hnl, hsz, hcs]; omega)
  · have hel2 : (xs.eraseIdx i).length = i + (n - (i + 1)) := by rw [List.length_eraseIdx_of_lt (by omega)]; omega
    refine Kd.R_of_own ⟨by rw [encs_length, Nat.mul_one], Or.inr ⟨g, cap, _, by rw [hel2], hbg, setRow_heap w g cur _ 9 (0, 0) hg, by omega, hcm, ?_, ?_⟩⟩ (fun k hk => hR.1 k hk)
    · rw [hsz, Nat.mul_one, Nat.mul_one]
      show (List.toArray _).size = cap
      simp only [List.size_toArray, List.length_append, List.length_take, List.length_drop, hel, hcl]
      omega
    · rw [hel2, Nat.mul_one, ← encs_erase, List.eraseIdx_eq_take_drop_succ, hsz, Nat.mul_one]
      show (List.take _ (List.toArray _).toList) = _
      rw [List.toList_toArray]
      have hti : List.take i (encs Value.string xs) = List.take i cur.toList := by rw [← htk, List.take_take, Nat.min_eq_left (by omega)]
      rw [hti]
      refine List.take_left' ?_
      simp only [List.length_append, List.length_take, List.length_drop, hel, hcl]
      omega
  · exact ⟨rfl, rfl, rfl, by simp, fun k _ hk => setRow_other w g k _ (fun e => hk (by rw [e]))⟩
end Go.Proofs.YtbemlaalccoepaaDoor.CapG

set_option linter.unusedVariables false
set_option linter.unusedSimpArgs false
namespace Go.Proofs.YtbemlaalccoepaaDoor.CapH
open Go.RowKit Go.Proofs.YtbemlaalccoepaaDoorW.PrintWords Go.Proofs.YtbemlaalccoepaaDoorW.PrintLast Go.Proofs.YtbemlaalccoepaaDoorW.PrintMore Go.Proofs.YtbemlaalccoepaaDoor.QAll Txt SMap CapA Ptr CapB CapC CapD CapE CapF CapG

theorem wpList_del {P : Program} {w : World} {ops : Array Oper} {rest : List Oper} {o : Oper} {a : Act} {Q : Exit → Act → World → Prop} (hg : o.guard = none) (s x : Operand) (t k : TypeId) (hop : o.op = Op.call { callee := .builtin .delete, args := #[s, x], argTypes := #[t, k] })
    (v0 v1 : Value) (hs : a.eval s = v0) (hx : a.eval x = v1) (w1 : World) (hrun : ∀ ty, (Builtin.delete_ #[t, k] ty #[v0, v1]).run P w = .ok (.tuple #[]) w1) (hK : wpList P ops Q rest (a.put o.dst (.tuple #[])) w1) : wpList P ops Q (o :: rest) a w := by
  refine wpList_plain hg fun K' hK' => ?_
  unfold Oper.wp
  simp [execOp, hop, resolve, invoke, builtin, hs, hx, hrun, Result.andThen]
  exact hK' _ _ hK
theorem step_run {P : Program} {ops : Array Oper} {o : Oper} {a : Act} {w : World} {K : Act → World → Prop} {Q : Exit → Act → World → Prop} {E : Prop} (hg : o.guard = none) (s x : Operand) (t : TypeId) (hop : o.op = Op.call { callee := Callee.builtin Builtin.append, args := #[s, x], argTypes := #[t, t] })
    (v0 v1 vr : Value) (hs : a.eval s = v0) (hx : a.eval x = v1) (w1 : World) (hrun : ∀ ty, (Builtin.append_ #[t, t] ty #[v0, v1]).run P w = .ok vr w1) (hK : K (a.put o.dst vr) w1) :
    if Region.wanted o (yielded ops a.tmps) = true then Oper.wp P o a w K Q else E := by
  have hw : Region.wanted o (yielded ops a.tmps) = true := by simp [Region.wanted, hg]
  rw [if_pos hw]
  unfold Oper.wp
  simp [execOp, hop, resolve, invoke, builtin, hs, hx, hrun, Result.andThen]
  exact hK
theorem filter_erase {L : List Ent} (hd : (L.map Ent.n).Nodup) {j : Nat} {e : Ent} (hj : L[j]? = some e) : (L.eraseIdx j).map Ent.cap = (L.map Ent.cap).filter (fun s => decide (s.f0 ≠ e.n)) := by
  induction L generalizing j with
  | nil => simp at hj
  | cons a L ih =>
    rw [List.map_cons, List.nodup_cons] at hd
    cases j with
    | zero =>
      obtain rfl : a = e := by simpa using hj
      rw [List.eraseIdx_cons_zero, List.map_cons, List.filter_cons_of_neg (by simp [Ent.cap])]
      refine (List.filter_eq_self.2 fun s hs => ?_).symm
      obtain ⟨x, hx, rfl⟩ := List.mem_map.1 hs
      refine decide_eq_true fun e2 => hd.1 ?_
      rw [← show x.n = a.n from e2]
      exact List.mem_map.2 ⟨x, hx, rfl⟩
    | succ j =>
      have hj' : L[j]? = some e := by simpa using hj
      rw [List.eraseIdx_cons_succ, List.map_cons, List.map_cons, ih hd.2 hj', List.filter_cons_of_pos]
      refine decide_eq_true fun e2 => hd.1 ?_
      rw [show a.n = e.n from e2]
      exact List.mem_map.2 ⟨e, List.mem_of_getElem? hj', rfl⟩
set_option maxHeartbeats 8000000 in
set_option maxRecDepth 100000 in
theorem delNone (lb mb : Nat) (G : Nat → Nat) (L : List Ent) (V : Value) (c : ByteArray) (w0 w : World) (hL : LSt w w0.heap.size lb mb G L V (L.map Ent.n)) (hc : ∀ e ∈ L, e.n ≠ c) :
    Calls Tryd.prog 16 #[.pointer (some ⟨lb, 0, none⟩), .string c] w fun e w' => e = .returned (.tuple #[]) ∧ w' = w := by
  have HSU := Aside0.mk (supports lb mb c (.pointer none) false V w hL.hl (hL.miss2 hc))
  clear hL hc
  go_enter Tryd.func16, Tryd.ntmps16
  go_wp2_with (first | (go_at_call 32; (with_reducible refine HSU.out.mono ?_); rintro e w2 ⟨rfl, hw⟩; replace hw := hw.symm; subst hw))
  (try simp only [Exit.inBlock, Exit.then]); refine bodyPost_ret (results_none rfl _ _ _) rfl ?_
  exact ⟨rfl, rfl⟩
set_option maxHeartbeats 8000000 in
set_option maxRecDepth 100000 in
theorem delOne (lb mb : Nat) (G : Nat → Nat) (L : List Ent) (V : Value) (c : ByteArray) (j : Nat) (b : Nat) (vs : List ByteArray) (v : Value) (w0 w : World) (hb : Below w0.heap.size w0 w) (hL : LSt w w0.heap.size lb mb G L V (L.map Ent.n)) (hj : L[j]? = some ⟨c, vs, b, v⟩) (hl : L.length ≤ 1000) :
    Calls Tryd.prog 16 #[.pointer (some ⟨lb, 0, none⟩), .string c] w fun e w' => e = .returned (.tuple #[]) ∧ ∃ G' V', LSt w' w0.heap.size lb mb G' (L.eraseIdx j) V' ((L.eraseIdx j).map Ent.n) ∧ Below w0.heap.size w0 w' := by
  have hjl := (List.getElem?_eq_some_iff.1 hj).1
  obtain ⟨n, hn⟩ : ∃ n, n = (L.map Ent.n).length := ⟨_, rfl⟩
  have hnL : n = L.length := by rw [hn, List.length_map]
  obtain ⟨g, cp, hV, _⟩ := Kd.R_form hL.hs (by rw [List.length_map]; omega)
  rw [← hn] at hV
  subst hV
  have HSU := Aside0.mk (supports lb mb c _ true _ w hL.hl (hL.look2 (List.mem_of_getElem? hj)))
  obtain ⟨w1, hdel, hl1, hb1, hk1, hz1⟩ := CapG.LSt.del hL hj
  have hdel' : ∀ ty, (Builtin.delete_ #[64, 44] ty #[.map (some mb), .string c]).run Tryd.prog w = .ok (.tuple #[]) w1 := hdel
  have hcm : w.cell? ⟨lb, 0, none⟩ = some (.map (some mb)) := (blk_cell hL.hl 0).trans rfl
  have hcv : w1.cell? ⟨lb, 1, none⟩ = some (.slice (some ⟨g, 0, none⟩) n cp) := (blk_cell hl1.hl 1).trans rfl
  have hnames : ∀ k (hk : k < n), w1.cell? ⟨g, k, none⟩ = some (.string ((L.map Ent.n).getD k ByteArray.empty)) := by
    intro k hk
    have h := (Kd.R_cell (e := 9) (g := g) (cap := cp) ByteArray.empty (by rw [← hn]; exact hl1.hs) (k : Int) (by omega) (by rw [← hn]; omega)).1
    rw [Int.toNat_natCast] at h
    exact h
  have hother : ∀ k, k < j → (L.map Ent.n).getD k ByteArray.empty ≠ c := by
    intro k hk e
    have hkl : k < L.length := by omega
    rw [List.getD_eq_getElem?_getD, List.getElem?_map, List.getElem?_eq_getElem hkl] at e
    have := inj_at Ent.n hL.nd (List.getElem?_eq_getElem hkl) hj e
    omega
  have hthis : (L.map Ent.n).getD j ByteArray.empty = c := by rw [List.getD_eq_getElem?_getD, List.getElem?_map, hj]; rfl
  have hcp : n ≤ cp ∧ cp ≤ maxLen := by
    rcases (Kd.own_of_R (xs := L.map Ent.n) hl1.hs).2 with ⟨h, _⟩ | ⟨_, _, _, h, _, _, h2, h3, _⟩
    · cases h
    · cases h
      exact ⟨by rw [hn]; exact h2, h3⟩
  have HL1 := Aside0.mk hl1
  have HB1 : Aside0 (Below w0.heap.size w0 w1) := ⟨hb.trans hb1⟩
  have HNM := Aside0.mk hnames
  have HOT := Aside0.mk hother
  have HTH := Aside0.mk hthis
  have HN := Aside0.mk hn
  have HNL : Aside0 (n = L.length ∧ n ≤ 1000) := ⟨⟨hnL, by omega⟩⟩
  have HCP := Aside0.mk hcp
  have HJ : Aside0 (j < n) := ⟨by omega⟩
  clear hnames hother hthis hl1 hb1 hk1 hz1 hdel hj hjl hn hnL hL hb hcp hl
  go_enter Tryd.func16, Tryd.ntmps16
  go_upto_region 2 with (first
    | (go_at_call 32; (with_reducible refine HSU.out.mono ?_); rintro e w2 ⟨rfl, hw⟩; replace hw := hw.symm; subst hw)
    | (refine wpList_del rfl (.tmp 13) (.tmp 14) 64 44 rfl (.map (some mb)) (.string c) rfl rfl w1 hdel' ?_))
  clear hdel' hcm
  go_wp2
  go_loopg [20] j (fun gk v20 w' => ∃ k : Nat, v20 = .int .i64 (k : Int) ∧ Aside0 (k + gk = j) ∧ w' = w1)
  case atStart => exact ⟨0, rfl, ⟨by omega⟩, rfl⟩
  case round =>
    obtain ⟨k, rfl, HK, hw⟩ := hrel
    replace hw := hw.symm
    subst hw
    have hkn : (k : Int) < (n : Int) := by have := HK.out; have := HJ.out; omega
    have hx := HNM.out k (by have := HK.out; have := HJ.out; omega)
    have HWK : Aside0 (wrap64 ((k : Int) + 1) = ((k + 1 : Nat) : Int)) := ⟨by have := HK.out; have := HJ.out; have := HNL.out.2; unfold wrap64; omega⟩
    by_cases q : k < j
    · obtain ⟨g0, rfl⟩ : ∃ m, gk = m + 1 := ⟨gk - 1, by have := HK.out; omega⟩
      have hne := HOT.out k q
      generalize (L.map Ent.n).getD k ByteArray.empty = s at hx hne
      have e3 : decide (s = c) = false := decide_eq_false hne
      have e1 : (s.toList == c.toList) = false := by rw [beq_eq_false_iff_ne]; exact fun e => hne (ba_ext e)
      go_wp2
      go_roundg g0
      case measure => omega
      case rel => exact ⟨k + 1, by rw [HWK.out], ⟨by have := HK.out; omega⟩, rfl⟩
    · obtain rfl : k = j := by have := HK.out; omega
      rw [HTH.out] at hx
      go_upto_region 6 with fail
      have HDR : Aside0 (LSt w1.drew w0.heap.size lb mb (tagDel G k (L.length + 5)) (L.eraseIdx k) (.slice (some ⟨g, 0, none⟩) n cp) (L.map Ent.n)) := ⟨HL1.out.below (below_drew1 (Below.refl _ _))⟩
      have hcd : w1.drew.cell? ⟨lb, 1, none⟩ = some (.slice (some ⟨g, 0, none⟩) n cp) := (blk_cell HDR.out.hl 1).trans rfl
      obtain ⟨Ad, hA, had⟩ : ∃ Ad, (if cp = k + 1 then some (⟨g, 0, none⟩ : Addr) else some ⟨g, k + 1, none⟩) = some Ad ∧ (Ad = ⟨g, k + 1, none⟩ ∨ n = k + 1) := by
        by_cases z : cp = k + 1
        · exact ⟨_, if_pos z, Or.inr (by have := HCP.out.1; have := HJ.out; omega)⟩
        · exact ⟨_, if_neg z, Or.inl rfl⟩
      obtain ⟨w7, hrun, hR7, hg7⟩ := cut_row HDR.out.hs k HJ.out HN.out.symm Ad had (cp - (k + 1))
      have hlb7 := blk_grown HDR.out.hl hg7 (Kd.R_ne HDR.out.hs HDR.out.hl (by decide))
      have hc7 : w7.cell? ⟨lb, 1, none⟩ = some (.slice (some ⟨g, 0, none⟩) n cp) := (blk_cell hlb7 1).trans rfl
      have hz7 := blk_frozen hlb7 1
      have HRUN := Aside0.mk hrun
      have HL7 := Aside0.mk (HDR.out.order hR7 hg7)
      have HB7 : Aside0 (Below w0.heap.size w0 (w7.setCell ⟨lb, 1, none⟩ (.slice (some ⟨g, 0, none⟩) (k + (n - (k + 1))) cp))) := ⟨below_set ((HB1.out.trans ((below_drew1 (Below.refl w1.heap.size w1)).mono HB1.out.size)).trans ⟨hg7.os, hg7.tape, hg7.output, hg7.size, fun i hi => hg7.block i (by have := HDR.out.lb_lt; have := HDR.out.hlb; omega) (fun e => by have := Kd.R_base HDR.out.hs i e.symm; omega)⟩) HDR.out.hlb⟩
      have HER : Aside0 ((L.map Ent.n).eraseIdx k = (L.eraseIdx k).map Ent.n) := ⟨(eraseIdx_map' _ _ _).symm⟩
      have hic : k ≤ cp := by have := HCP.out.1; have := HJ.out; omega
      have hwr : IntKind.i64.wrap ((k : Int) + 1) = (k : Int) + 1 := by rw [IntKind.wrap_i64]; have := HJ.out; have := HNL.out.2; omega
      have hp0 : (0 : Int) ≤ (k : Int) + 1 := by omega
      have hp1 : (k : Int) + 1 ≤ (n : Int) := by have := HJ.out; omega
      have hp2 : ((k : Int) + 1).toNat = k + 1 := by omega
      clear hR7 hg7 hlb7 had hrun hx
      go_region_law (refine step_run rfl (.tmp 34) (.tmp 41) 25 rfl (.slice (some ⟨g, 0, none⟩) k cp) (.slice (some Ad) (n - (k + 1)) (cp - (k + 1))) (.slice (some ⟨g, 0, none⟩) (k + (n - (k + 1))) cp) (by simp [Act.eval, Act.put]) (by simp [Act.eval, Act.put]) w7 HRUN.out ?_)
      all_goals go_wp2
      all_goals ((try simp only [Exit.inBlock, Exit.then]); refine bodyPost_ret (results_none rfl _ _ _) rfl ?_)
      all_goals exact ⟨rfl, tagDel G k (L.length + 5), _, by rw [← HER.out]; exact HL7.out, HB7.out⟩
#print axioms delOne
end Go.Proofs.YtbemlaalccoepaaDoor.CapH
