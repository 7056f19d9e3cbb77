/- sideband.Demuxer: doRead. sideband.Demuxer.Read over a row of 64 bytes. -/
import Derived.Test.YtponeoodgfgejaaDoorSidG
import Derived.Laws.CopyRow
import Derived.Laws.IdiomCopy
import Derived.Laws.Tables
set_option linter.unusedVariables false
set_option linter.unusedSimpArgs false
namespace Go.Proofs.YtponeoodgfgejaaDoor.SidI
open Go.RowKit Go.Proofs.YtponeoodgfgejaaDoorW.PrintWords Go.Proofs.YtponeoodgfgejaaDoor.QAll Txt PureA PureP HandA HandB HandC HandD HandE HandF HandG HandH HandI HandJ BufA BufB SidB SidC SidD SidG SidH

theorem info5sz' : (Tryd.prog.info? 5).map (·.size) = some 1 := by kernel_rfl
/-- The row of bytes into which is read, and nothing else but own blocks has turned. -/
structure Into (w w' : World) (pb : Nat) (cur' : List Value) (own own' : Nat → Prop) : Prop where
  row : w'.heap[pb]? = some (.cells cur'.toArray 5 (0, 0))
  far : Far w w' (fun k => own k ∨ k = pb)
  new : ∀ k, own' k → own k ∨ w.heap.size ≤ k
  no : ¬ own' pb
section
variable {w0 w w' : World} {dm gb sc rb : Nat} {kd mx : Int} {A : Option Addr} {D : List Int} {c : Nat} {te : List Int} {ds : List (List Int)} {P : Option Addr} {pc : Nat} {pd t : List Int} {own : Nat → Prop} {a : Addr}
theorem DS.far (h : DS w0 w dm gb sc rb kd mx A D c te ds P pc pd own) {S : Nat → Prop} (ho : Far w w' S) (hS : ∀ k, own k → ¬ S k) (hB : ∀ k, S k → w0.heap.size ≤ k) : DS w0 w' dm gb sc rb kd mx A D c te ds P pc pd own := by
  obtain ⟨pos, X, n, cb, rg, pl, hd, hst, rfl, hb⟩ := h
  exact ⟨pos, X, n, cb, rg, pl, hd.far ho hS hB, hst, rfl, hb⟩
theorem DS.ownlt (h : DS w0 w dm gb sc rb kd mx A D c te ds P pc pd own) (k : Nat) (hk : own k) : k < w.heap.size ∧ w0.heap.size ≤ k := by
  obtain ⟨pos, X, n, cb, rg, pl, hd, hst, rfl, hb⟩ := h
  exact hd.lt k hk
theorem DS.bel (h : DS w0 w dm gb sc rb kd mx A D c te ds P pc pd own) : Below w0.heap.size w0 w := by
  obtain ⟨pos, X, n, cb, rg, pl, hd, hst, rfl, hb⟩ := h
  exact hd.bel
theorem DE.far (h : DE w0 w dm gb sc rb kd mx A D c own) {S : Nat → Prop} (ho : Far w w' S) (hS : ∀ k, own k → ¬ S k) (hB : ∀ k, S k → w0.heap.size ≤ k) : DE w0 w' dm gb sc rb kd mx A D c own := by
  obtain ⟨pos, X, n, cb, rg, pl, hd, rfl⟩ := h
  exact ⟨pos, X, n, cb, rg, pl, hd.far ho hS hB, rfl⟩
theorem LD.keep (h : LD w0 w dm gb sc rb kd mx A D c te ds P pc t own) : DS w0 w dm gb sc rb kd mx A D c te ds none 0 [] own := by
  obtain ⟨pos, X, n, cb, rg, pl, hd, hst, e, hb, _⟩ := h
  exact ⟨pos, X, n, cb, rg, pl, hd, hst, e, hb⟩
theorem LD.cells (h : LD w0 w dm gb sc rb kd mx A D c te ds P pc t own) : w.cell? ⟨dm, 4, none⟩ = some (.slice none 0 0) ∧ w.frozen? ⟨dm, 4, none⟩ = false := by
  obtain ⟨pos, X, n, cb, rg, pl, hd, _⟩ := h
  obtain ⟨_, _, h4, h5, _⟩ := dm_cells hd.row
  exact ⟨h4, h5⟩
/-- Bytes that are lent, from the place m on, become pending. -/
theorem LD.set (h : LD w0 w dm gb sc rb kd mx A D c te ds (some a) pc t own) (m : Nat) (hm : m < t.length) :
    ∃ A3, (∀ W : World, (Instr.slice 25 (.slice (some a) t.length pc) (some (.int .i64 (m : Int))) none none).run Tryd.prog W = .ok (.slice A3 (t.length - m) (pc - m)) W) ∧
      DS w0 (w.setCell ⟨dm, 4, none⟩ (.slice A3 (t.length - m) (pc - m))) dm gb sc rb kd mx A D c te ds A3 (pc - m) (t.drop m) own ∧ Fr w (w.setCell ⟨dm, 4, none⟩ (.slice A3 (t.length - m) (pc - m))) own own ∧ own a.block ∧ a.block ≠ dm := by
  obtain ⟨pos, X, n, cb, rg, pl, hd, hst, rfl, hb, hC, hpc, hat, hz⟩ := h
  obtain ⟨A3, h1, h2, a3, rfl, hbl⟩ := cutB a pc t m (by omega) hpc
  obtain ⟨ax, hx, e⟩ := hat a rfl
  have hl : (t.drop m).length = t.length - m := List.length_drop
  have hs := hd.set (P2 := some a3) (pc2 := pc - m) (pd2 := t.drop m) (by rw [hl]; exact h2 w hC) (by rw [hl]; omega) (fun ad k => by cases k; exact ⟨ax, hx, hbl.trans e⟩) (fun k => by have := congrArg List.length k; rw [hl] at this; simp at this; omega)
  rw [hl] at hs
  exact ⟨some a3, h1, ⟨pos, X, n, cb, rg, pl, hs.1, hst, rfl, hb⟩, hs.2, .inl (.inr (.inr ⟨ax, hx, e⟩)), fun k => hd.d1 (.inr (.inr ⟨ax, hx, k ▸ e⟩))⟩
theorem LD.bytes (h : LD w0 w dm gb sc rb kd mx A D c te ds P pc t own) (ht : t ≠ []) : ∃ a, P = some a ∧ own a.block ∧ a.block ≠ dm ∧ t.length ≤ pc ∧ ∀ (j : Nat) (x : Int), t[j]? = some x → w.cell? (a.add j) = some (.int .u8 x) := by
  obtain ⟨pos, X, n, cb, rg, pl, hd, hst, rfl, hb, hC, hpc, hat, hz⟩ := h
  obtain ⟨a, rfl, hcell⟩ := C_cells hC (List.length_pos_iff.2 ht)
  obtain ⟨ax, hx, e⟩ := hat a rfl
  exact ⟨a, rfl, .inl (.inr (.inr ⟨ax, hx, e⟩)), fun k => hd.d1 (.inr (.inr ⟨ax, hx, k ▸ e⟩)), hpc, hcell⟩
theorem LD.nil (h : LD w0 w dm gb sc rb kd mx A D c te ds P pc [] own) : P = none := by
  obtain ⟨pos, X, n, cb, rg, pl, hd, hst, rfl, hb, hC, hpc, hat, hz⟩ := h
  exact hz rfl
end
/-- Bytes copied into the row. -/
theorem copied {w : World} {pb : Nat} {cur : List Value} (hrow : w.heap[pb]? = some (.cells cur.toArray 5 (0, 0))) (off L cp : Nat) (a : Addr) (n sc : Nat) (tk : List Int) (hn : tk.length = Nat.min n L) (hfit : off + L ≤ cur.length) (hsrc : ∀ (j : Nat) (x : Int), tk[j]? = some x → w.cell? (a.add j) = some (.int .u8 x)) :
    (Builtin.copy_ #[25, 25] 3 #[.slice (some ⟨pb, off, none⟩) L cp, .slice (some a) n sc]).run Tryd.prog w = .ok (.int .i64 (tk.length : Int)) (w.setRow pb (splice cur off (tk.map (Value.int .u8))).toArray) := by
  have h := run_copy_row (P := Tryd.prog) w 25 25 3 5 pb off L cp a n sc cur.toArray 5 (tk.map (Value.int .u8)) Tryd.underlying25 info5sz' hrow (by rw [List.length_map]; exact hn) ?_ ?_ (one_u8 tk)
  · rw [List.length_map] at h
    rw [h]
    unfold splice
    rw [List.length_map, ← List.append_assoc]
    rfl
  · intro j v hj
    rw [List.getElem?_map] at hj
    obtain ⟨x, hx, rfl⟩ := Option.map_eq_some_iff.1 hj
    exact hsrc j x hx
  · rw [List.length_map, hn]
    have : Nat.min n L ≤ L := Nat.min_le_right _ _
    simp
    omega

set_option maxHeartbeats 16000000 in
set_option maxRecDepth 100000 in
theorem doRead {w0 w : World} {dm gb sc rb : Nat} {kd mx : Int} {A : Option Addr} {D : List Int} {c : Nat} {te : List Int} {ds : List (List Int)} {P : Option Addr} {pc : Nat} {pd : List Int} {own : Nat → Prop} {aE aU aI : Addr} (h : DS w0 w dm gb sc rb kd mx A D c te ds P pc pd own) (hs : Sent w0 aE aU aI) (hD : Dat w0 A D c) (hk : Pks mx ds te)
    (pb off L cp : Nat) (cur : List Value) (hrow : w.heap[pb]? = some (.cells cur.toArray 5 (0, 0))) (hfit : off + L ≤ cur.length) (hL0 : 1 ≤ L) (hLc : L ≤ cp) (hno : ¬ own pb) (hpb : w0.heap.size ≤ pb) (hcur : cur.length ≤ 64) :
    Calls Tryd.prog 38 #[.pointer (some ⟨dm, 0, none⟩), .slice (some ⟨pb, off, none⟩) L cp] w fun e w' =>
      (∃ P' pc' tk pd' ds' own', e = .returned (.tuple #[.int .i64 (tk.length : Nat), .nilIface]) ∧ tk.length ≤ L ∧ DS w0 w' dm gb sc rb kd mx A D c te ds' P' pc' pd' own' ∧ Into w w' pb (splice cur off (tk.map (Value.int .u8))) own own' ∧ Pks mx ds' te ∧ tk ++ (pd' ++ txt 1 ds') = pd ++ txt 1 ds ∧ (enc ds').length + pd'.length < (enc ds).length + pd.length) ∨
      (pd = [] ∧ ds = [] ∧ ∃ g own', e = .returned (.tuple #[.int .i64 0, .iface 126 (.pointer (some ⟨g, 0, none⟩))]) ∧ w.heap.size ≤ g ∧ DE w0 w' dm gb sc rb kd mx A D c own' ∧ Into w w' pb cur own own' ∧ ∃ cs ty, w'.heap[g]? = some (.cells cs ty (0, 0))) := by
  have HNP := Aside0.mk (nextPackData h hs hD hk)
  have HDS := Aside0.mk h
  have HROW := Aside0.mk hrow
  have HPB := Aside0.mk hpb
  have HNO := Aside0.mk hno
  have HFIT := Aside0.mk hfit
  have HCUR := Aside0.mk hcur
  have hL64 : (L : Int) ≤ 64 := by omega
  clear h hs hD hk hrow hpb hno hfit hcur
  go_enter Tryd.func38, Tryd.ntmps38
  go_wp2_with (first | (go_at_call 49; (with_reducible refine HNP.out.mono ?_)) | fail)
  rintro e w1 (⟨P', pc', t, ds', own', rfl, hld, hfr, hk', htx, hms, hmz⟩ | ⟨rfl, rfl, g, own', rfl, hg, hde, hfr, hgr⟩)
  · have HLD := Aside0.mk hld
    have HFR := Aside0.mk hfr
    have HK := Aside0.mk hk'
    have HTX := Aside0.mk htx
    have HMS := Aside0.mk hms
    have HMZ := Aside0.mk hmz
    have hown := DS.ownlt HDS.out
    have hrow1 : w1.heap[pb]? = some (.cells cur.toArray 5 (0, 0)) := (hfr.far.blk pb (blk_lt HROW.out) HNO.out).trans HROW.out
    have HR1 := Aside0.mk hrow1
    have HNO1 : Aside0 (¬ own' pb) := ⟨fun k => by
      rcases hfr.new pb k with q | q
      · exact HNO.out q
      · have := blk_lt HROW.out; omega⟩
    have HOW := Aside0.mk hown
    clear hld hfr hk' htx hms hmz hown hrow1
    by_cases ht : t = []
    · subst ht
      obtain rfl := LD.nil HLD.out
      have z1 : decide ((0 : Int) < (L : Int)) = true := decide_eq_true (by omega)
      have z1n : decide (0 < L) = true := decide_eq_true (by omega)
      have z2 : decide ((L : Int) < 0) = false := decide_eq_false (by omega)
      have hcut := toA none 0 pc' 0 (Nat.zero_le _)
      have hcp : ∀ W : World, (Builtin.copy_ #[25, 25] 3 #[.slice (some ⟨pb, off, none⟩) L cp, .slice none 0 pc']).run Tryd.prog W = .ok (goInt 0) W := fun W => run_copy_none W 25 25 3 5 _ _ L cp 0 pc' Tryd.underlying25 info5sz' (by simp)
      go_wp2
      go_ret2
      refine .inl ⟨none, 0, [], [], ds', own', rfl, Nat.zero_le _, LD.keep HLD.out, ⟨?_, HFR.out.far.mono (fun k hk => .inl hk), HFR.out.new, HNO1.out⟩, HK.out, HTX.out, ?_⟩
      · have : splice cur off (([] : List Int).map (Value.int .u8)) = cur := by unfold splice; simp
        rw [this]
        exact HR1.out
      · have := HMZ.out (by first | rfl | trivial)
        simpa using this
    · obtain ⟨a, rfl, hoa, had, hpc, hsrc⟩ := LD.bytes HLD.out ht
      have HSRC := Aside0.mk hsrc
      have HOA := Aside0.mk hoa
      have HT := Aside0.mk ht
      by_cases q : L < t.length
      · obtain ⟨A3, hcut3, hds3, hfr3, _, _⟩ := LD.set HLD.out L q
        have z1 : decide ((L : Int) < (t.length : Int)) = true := decide_eq_true (by omega)
        have z2 : decide ((t.length : Int) < (L : Int)) = false := decide_eq_false (by omega)
        have z1n : decide (L < t.length) = true := decide_eq_true q
        have z2n : decide (t.length < L) = false := decide_eq_false (by omega)
        have hcut := toA (some a) t.length pc' L (by omega)
        obtain ⟨k4, k4f⟩ := LD.cells HLD.out
        have hbl3 : (w1.setCell ⟨dm, 4, none⟩ (.slice A3 (t.length - L) (pc' - L))).heap[a.block]? = w1.heap[a.block]? := Below.heap_setCell _ _ _ _ (fun k => had k)
        have hpd3 : pb ≠ dm := fun k => HNO1.out (by
          obtain ⟨pos, X, n, cb, rg, pl, hd, hst, e, _⟩ := HLD.out
          rw [e, k]; exact .inr (.inl rfl))
        have hrow3 : (w1.setCell ⟨dm, 4, none⟩ (.slice A3 (t.length - L) (pc' - L))).heap[pb]? = some (.cells cur.toArray 5 (0, 0)) := (Below.heap_setCell _ _ _ _ hpd3).trans HR1.out
        have hlt : (t.take L).length = L := by rw [List.length_take]; omega
        obtain ⟨tk, htk⟩ : ∃ tk, tk = t.take L := ⟨_, rfl⟩
        have HTK := Aside0.mk htk
        rw [← htk] at hlt
        have hcp := copied hrow3 off L cp a L pc' tk (by rw [hlt]; exact (Nat.min_self L).symm) HFIT.out (fun j x hj => by
          rw [htk] at hj
          rw [← hsrc j x (by rw [List.getElem?_take] at hj; split at hj; exact hj; cases hj)]
          exact World.cell?_of_block (by rw [show (a.add j).block = a.block by unfold Addr.add; split <;> rfl]; exact hbl3))
        rw [hlt] at hcp
        have HDS3 := Aside0.mk hds3
        have HFR3 := Aside0.mk hfr3
        have HR3 := Aside0.mk hrow3
        have HLT := Aside0.mk hlt
        have HQ := Aside0.mk q
        clear hds3 hfr3 hrow3 hlt htk hbl3 hsrc hoa had hpc ht q hpd3
        go_wp2
        go_ret2
        have hfar := (Far.refl (w1.setCell ⟨dm, 4, none⟩ (.slice A3 (t.length - L) (pc' - L))) (fun k => k = pb)).row (g := pb) rfl (splice cur off (tk.map (Value.int .u8))).toArray
        refine .inl ⟨_, _, tk, t.drop L, ds', own', by rw [HLT.out]; rfl, by rw [HLT.out]; exact Nat.le_refl _, DS.far (S := fun k => k = pb) HDS3.out hfar (fun k hk e => HNO1.out (e ▸ hk)) (fun k e => by rw [e]; exact HPB.out), ⟨?_, ?_, HFR.out.new, HNO1.out⟩, HK.out, ?_, ?_⟩
        · exact setRow_heap _ _ _ _ _ _ HR3.out
        · exact ((HFR.out.trans HFR3.out).far.mono (fun k hk => .inl hk)).trans2 hfar (fun i hi => .inl (.inr hi))
        · rw [HTK.out, ← List.append_assoc, List.take_append_drop]; exact HTX.out
        · have := HMS.out; have := HQ.out; rw [List.length_drop]; omega
      · have z1 : decide ((L : Int) < (t.length : Int)) = false := decide_eq_false (by omega)
        have z1n : decide (L < t.length) = false := decide_eq_false q
        have hcut := toA (some a) t.length pc' t.length (by omega)
        have hcp := copied HR1.out off L cp a t.length pc' t (Nat.min_eq_left (by omega)).symm HFIT.out hsrc
        have hcpL : L = t.length → (Builtin.copy_ #[25, 25] 3 #[.slice (some ⟨pb, off, none⟩) L cp, .slice (some a) L pc']).run Tryd.prog w1 = .ok (.int .i64 (t.length : Int)) (w1.setRow pb (splice cur off (t.map (Value.int .u8))).toArray) := fun e => by rw [← e] at hcp ⊢; exact hcp
        have HQ := Aside0.mk q
        have HFA : Aside0 (∃ P' pc' tk pd' ds' own', Ending.returned (.tuple #[.int .i64 (t.length : Nat), .nilIface]) = .returned (.tuple #[.int .i64 (tk.length : Nat), .nilIface]) ∧ tk.length ≤ L ∧ DS w0 (w1.setRow pb (splice cur off (t.map (Value.int .u8))).toArray) dm gb sc rb kd mx A D c te ds' P' pc' pd' own' ∧ Into w (w1.setRow pb (splice cur off (t.map (Value.int .u8))).toArray) pb (splice cur off (tk.map (Value.int .u8))) own own' ∧ Pks mx ds' te ∧ tk ++ (pd' ++ txt 1 ds') = pd ++ txt 1 ds ∧ (enc ds').length + pd'.length < (enc ds).length + pd.length) := ⟨by
          have hfar := (Far.refl w1 (fun k => k = pb)).row (g := pb) rfl (splice cur off (t.map (Value.int .u8))).toArray
          refine ⟨none, 0, t, [], ds', own', rfl, by omega, DS.far (S := fun k => k = pb) (LD.keep HLD.out) hfar (fun k hk e => HNO1.out (e ▸ hk)) (fun k e => by rw [e]; exact HPB.out), ⟨setRow_heap _ _ _ _ _ _ HR1.out, (HFR.out.far.mono (fun k hk => .inl hk)).trans2 hfar (fun i hi => .inl (.inr hi)), HFR.out.new, HNO1.out⟩, HK.out, by simpa using HTX.out, ?_⟩
          have := HMS.out
          have : 0 < t.length := List.length_pos_iff.2 ht
          simp only [List.length_nil, Nat.add_zero]
          omega⟩
        by_cases q2 : t.length < L
        · have z2 : decide ((t.length : Int) < (L : Int)) = true := decide_eq_true (by omega)
          have z2n : decide (t.length < L) = true := decide_eq_true q2
          clear hsrc hoa had hpc ht q q2 hcpL
          go_wp2
          go_ret2
          exact .inl HFA.out
        · have eL : L = t.length := by omega
          have hcp := hcpL eL
          have z2 : decide ((t.length : Int) < (L : Int)) = false := decide_eq_false (by omega)
          have z2n : decide (t.length < L) = false := decide_eq_false q2
          have hcut : ∀ W : World, (Instr.slice 25 (.slice (some a) t.length pc') none (some (.int .i64 (L : Int))) none).run Tryd.prog W = .ok (.slice (some a) L pc') W := by rw [eL]; exact hcut
          clear hsrc hoa had hpc ht q q2 hcpL eL
          go_wp2
          go_ret2
          exact .inl HFA.out
  · have hcut := toA none 0 0 0 (Nat.zero_le _)
    have hcp : ∀ W : World, (Builtin.copy_ #[25, 25] 3 #[.slice (some ⟨pb, off, none⟩) L cp, .slice none 0 0]).run Tryd.prog W = .ok (goInt 0) W := fun W => run_copy_none W 25 25 3 5 _ _ L cp 0 0 Tryd.underlying25 info5sz' (by simp)
    have z1 : decide ((0 : Int) < (L : Int)) = true := decide_eq_true (by omega)
    have z2 : decide ((L : Int) < 0) = false := decide_eq_false (by omega)
    have HFR := Aside0.mk hfr
    have HDE := Aside0.mk hde
    have HG := Aside0.mk hg
    have HGR := Aside0.mk hgr
    clear hfr hde hg hgr
    go_wp2
    go_ret2
    have hin : Into w w1 pb cur own own' := ⟨(HFR.out.far.blk pb (blk_lt HROW.out) HNO.out).trans HROW.out, HFR.out.far.mono (fun k hk => .inl hk), HFR.out.new, fun k => by
      rcases HFR.out.new pb k with q | q
      · exact HNO.out q
      · have := blk_lt HROW.out; omega⟩
    refine .inr ?_
    first
      | exact ⟨g, own', rfl, HG.out, HDE.out, hin, HGR.out⟩
      | exact ⟨trivial, trivial, g, own', rfl, HG.out, HDE.out, hin, HGR.out⟩
      | exact ⟨g, rfl, HG.out, own', HDE.out, hin, HGR.out⟩
end Go.Proofs.YtponeoodgfgejaaDoor.SidI

set_option linter.unusedVariables false
set_option linter.unusedSimpArgs false
namespace Go.Proofs.YtponeoodgfgejaaDoor.SidJ
open Go.RowKit Go.Proofs.YtponeoodgfgejaaDoorW.PrintWords Go.Proofs.YtponeoodgfgejaaDoor.QAll Txt PureA PureP HandA HandB HandC HandD HandE HandF HandG HandH HandI HandJ BufA BufB SidB SidC SidD SidG SidH SidI

theorem addz (pb j : Nat) : Addr.add ⟨pb, 0, none⟩ j = ⟨pb, j, none⟩ := by unfold Addr.add; split <;> simp_all
theorem cutRow (pb j : Nat) (hj : j < 64) : ∀ W : World, (Instr.slice 25 (.slice (some ⟨pb, 0, none⟩) 64 64) (some (.int .i64 (j : Int))) (some (.int .i64 64)) none).run Tryd.prog W = .ok (.slice (some ⟨pb, j, none⟩) (64 - j) (64 - j)) W := by
  obtain ⟨i, hi, _, hsz, _⟩ := info_parts (show (Tryd.prog.info? 5).map (fun i => (i.zero, i.size, i.bytes)) = some (some (.int .u8 0), 1, 1) by kernel_rfl)
  have h := cut_mid (P := Tryd.prog) 25 5 .i64 .i64 Tryd.underlying25 hi 1 hsz (some ⟨pb, 0, none⟩) 64 64 (j : Int) 64 (by omega) (by omega) (by omega) (by omega)
  intro W
  have h := h W
  rw [Int.toNat_natCast, if_neg (by omega), Nat.mul_one] at h
  have e2 : (some ⟨pb, 0, none⟩ : Option Addr).map (fun x => x.add j) = some ⟨pb, j, none⟩ := by
    rw [Option.map_some, addz]
  rw [e2] at h
  exact h
theorem splice_take (cur : List Value) (j : Nat) (cs : List Value) (h : j + cs.length ≤ cur.length) : (splice cur j cs).take (j + cs.length) = cur.take j ++ cs := by
  unfold splice
  rw [← List.append_assoc, List.take_append_of_le_length (by rw [List.length_append, List.length_take]; omega), List.take_of_length_le (by rw [List.length_append, List.length_take]; omega)]
theorem splice_length (cur : List Value) (j : Nat) (cs : List Value) (h : j + cs.length ≤ cur.length) : (splice cur j cs).length = cur.length := by
  unfold splice
  simp only [List.length_append, List.length_take, List.length_drop]
  omega
theorem Into.trans {w w1 w2 : World} {pb : Nat} {c1 c2 : List Value} {o o1 o2 : Nat → Prop} (h : Into w w1 pb c1 o o1) (k : Into w1 w2 pb c2 o1 o2) : Into w w2 pb c2 o o2 :=
  ⟨k.row, h.far.trans2 k.far (fun i hi => by
    rcases hi with hi | rfl
    · rcases h.new i hi with q | q
      · exact .inl (.inl q)
      · exact .inr q
    · exact .inl (.inr rfl)), fun i hi => by
    rcases k.new i hi with q | q
    · exact h.new i q
    · exact .inr (Nat.le_trans h.far.size q), k.no⟩

set_option maxHeartbeats 16000000 in
set_option maxRecDepth 100000 in
theorem read {w0 w : World} {dm gb sc rb : Nat} {kd mx : Int} {A : Option Addr} {D : List Int} {c : Nat} {te : List Int} {ds : List (List Int)} {P : Option Addr} {pc : Nat} {pd : List Int} {own : Nat → Prop} {aE aU aI : Addr} (h : DS w0 w dm gb sc rb kd mx A D c te ds P pc pd own) (hs : Sent w0 aE aU aI) (hD : Dat w0 A D c) (hk : Pks mx ds te)
    (pb : Nat) (cur : List Value) (hrow : w.heap[pb]? = some (.cells cur.toArray 5 (0, 0))) (hno : ¬ own pb) (hpb : w0.heap.size ≤ pb) (hcur : cur.length = 64) :
    Calls Tryd.prog 27 #[.pointer (some ⟨dm, 0, none⟩), .slice (some ⟨pb, 0, none⟩) 64 64] w fun e w' =>
      (∃ P' pc' bs pd' ds' own' cur', e = .returned (.tuple #[.int .i64 64, .nilIface]) ∧ bs.length = 64 ∧ cur'.length = 64 ∧ cur'.take 64 = bs.map (Value.int .u8) ∧ DS w0 w' dm gb sc rb kd mx A D c te ds' P' pc' pd' own' ∧ Into w w' pb cur' own own' ∧ Pks mx ds' te ∧ bs ++ (pd' ++ txt 1 ds') = pd ++ txt 1 ds ∧ (enc ds').length + pd'.length < (enc ds).length + pd.length) ∨
      (∃ bs g own' cur', e = .returned (.tuple #[.int .i64 (bs.length : Nat), .iface 126 (.pointer (some ⟨g, 0, none⟩))]) ∧ bs.length < 64 ∧ cur'.length = 64 ∧ cur'.take bs.length = bs.map (Value.int .u8) ∧ w.heap.size ≤ g ∧ DE w0 w' dm gb sc rb kd mx A D c own' ∧ Into w w' pb cur' own own' ∧ bs = pd ++ txt 1 ds ∧ ∃ cs ty, w'.heap[g]? = some (.cells cs ty (0, 0))) := by
  have HS := Aside0.mk hs
  have HD := Aside0.mk hD
  have HPB := Aside0.mk hpb
  have HST : Aside0 (∃ bs cur' P pc pd' ds' own', bs.length = 0 ∧ cur'.length = 64 ∧ cur'.take 0 = bs.map (Value.int .u8) ∧ DS w0 w dm gb sc rb kd mx A D c te ds' P pc pd' own' ∧ Into w w pb cur' own own' ∧ Pks mx ds' te ∧ bs ++ (pd' ++ txt 1 ds') = pd ++ txt 1 ds ∧ (enc ds').length + pd'.length ≤ (enc ds).length + pd.length ∧ (enc ds').length + pd'.length = (enc ds).length + pd.length) := ⟨[], cur, P, pc, pd, ds, own, rfl, hcur, rfl, h, ⟨hrow, Far.refl _ _, fun k hk => .inl hk, hno⟩, hk, rfl, Nat.le_refl _, rfl⟩
  clear h hs hD hk hrow hno hpb hcur
  go_enter Tryd.func27, Tryd.ntmps27
  go_wp2
  go_loopg [6] ((enc ds).length + pd.length) (fun gk v6 w' => ∃ j : Nat, v6 = .int .i64 (j : Int) ∧ j ≤ 64 ∧ Aside0 (∃ bs cur' P pc pd' ds' own', bs.length = j ∧ cur'.length = 64 ∧ cur'.take j = bs.map (Value.int .u8) ∧ DS w0 w' dm gb sc rb kd mx A D c te ds' P pc pd' own' ∧ Into w w' pb cur' own own' ∧ Pks mx ds' te ∧ bs ++ (pd' ++ txt 1 ds') = pd ++ txt 1 ds ∧ (enc ds').length + pd'.length + (if j = 0 then 0 else 1) ≤ (enc ds).length + pd.length ∧ (enc ds').length + pd'.length = gk))
  case atStart =>
    obtain ⟨bs, cur', P1, pc1, pd1, ds1, own1, h1, h2, h3, h4, h5, h6, h7, h8, h9⟩ := HST.out
    exact ⟨0, rfl, Nat.zero_le _, ⟨bs, cur', P1, pc1, pd1, ds1, own1, h1, h2, h3, h4, h5, h6, h7, by rw [if_pos rfl]; exact h8, h9⟩⟩
  case round =>
    obtain ⟨j, rfl, hj, HR⟩ := hrel
    by_cases q : j < 64
    · obtain ⟨bs, cur', P1, pc1, pd1, ds1, own1, h1, h2, h3, h4, h5, h6, h7, h8, h9⟩ := HR.out
      have hcut := cutRow pb j q
      have d0 : decide ((j : Int) < 64) = true := decide_eq_true (by omega)
      have d0n : decide (j < 64) = true := decide_eq_true q
      have HDR := Aside0.mk (doRead h4 HS.out HD.out h6 pb j (64 - j) (64 - j) cur' h5.row (by omega) (by omega) (Nat.le_refl _) h5.no HPB.out (by omega))
      have H1 := Aside0.mk (And.intro h1 (And.intro h2 h3))
      have H5 := Aside0.mk h5
      have H7 := Aside0.mk h7
      have H8 := Aside0.mk (And.intro h8 h9)
      have hjb : (j : Int) ≤ 63 := by omega
      clear h1 h2 h3 h4 h5 h6 h7 h8 h9
      go_wp2_with (first | (go_at_call 38; (with_reducible refine HDR.out.mono ?_)) | fail)
      rintro e w1 (⟨P', pc', tk, pd', ds', own', rfl, k1, k2, k3, k4, k5, k6⟩ | ⟨rfl, rfl, g, own', rfl, k1, k2, k3, k4⟩)
      · have hw : wrap64 ((j : Int) + (tk.length : Int)) = ((j + tk.length : Nat) : Int) := by unfold wrap64; omega
        have HW := Aside0.mk hw
        have K1 := Aside0.mk k1
        have K2 := Aside0.mk k2
        have K3 := Aside0.mk k3
        have K4 := Aside0.mk k4
        have K5 := Aside0.mk k5
        have K6 := Aside0.mk k6
        have htb : (tk.length : Int) ≤ 64 := by omega
        clear hw k1 k2 k3 k4 k5 k6
        go_wp2
        go_roundg ((enc ds').length + pd'.length)
        case measure => have := K6.out; have := H8.out.2; omega
        case rel =>
          refine ⟨j + tk.length, by first | rfl | (rw [HW.out]) | simp, by have := K1.out; omega, ⟨bs ++ tk, _, P', pc', pd', ds', own', by rw [List.length_append, H1.out.1], ?_, ?_, K2.out, Into.trans H5.out K3.out, K4.out, ?_, ?_, rfl⟩⟩
          · rw [splice_length _ _ _ (by rw [List.length_map, H1.out.2.1]; have := K1.out; omega)]; exact H1.out.2.1
          · have := splice_take cur' j (tk.map (Value.int .u8)) (by rw [List.length_map, H1.out.2.1]; have := K1.out; omega)
            rw [List.length_map] at this
            rw [this, H1.out.2.2, List.map_append]
          · rw [List.append_assoc, K5.out]; exact H7.out
          · have := K6.out
            have := H8.out
            split <;> split at this <;> omega
      · have HK := Aside0.mk (And.intro k1 (And.intro k2 (And.intro k3 k4)))
        clear k1 k2 k3 k4
        go_wp2
        go_ret2
        obtain ⟨k1, k2, k3, k4⟩ := HK.out
        obtain ⟨e1, e2, e3⟩ := H1.out
        refine .inr ⟨bs, g, own', cur', by rw [e1]; simp, by omega, e2, by rw [e1]; exact e3, ?_, k2, Into.trans H5.out k3, ?_, k4⟩
        · exact Nat.le_trans H5.out.far.size k1
        · have := H7.out
          rw [← this]
          simp [txt]
    · have hj64 : j = 64 := by omega
      subst hj64
      have HR2 := HR
      clear HR
      go_wp2
      go_ret2
      obtain ⟨bs, cur', P1, pc1, pd1, ds1, own1, h1, h2, h3, h4, h5, h6, h7, h8, h9⟩ := HR2.out
      exact .inl ⟨P1, pc1, bs, pd1, ds1, own1, cur', rfl, h1, h2, h3, h4, h5, h6, h7, by rw [if_neg (by decide)] at h8; omega⟩
end Go.Proofs.YtponeoodgfgejaaDoor.SidJ
