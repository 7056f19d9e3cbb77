/- sideband.Demuxer: its state; getPending, nextPackData. sideband.Demuxer: nextPackData. -/
import Derived.Test.YtponeoodgfgejaaDoorSidE
import Derived.Test.YtponeoodgfgejaaDoorHandJ
import Derived.BigQuiet
set_option linter.unusedVariables false
set_option linter.unusedSimpArgs false
namespace Go.Proofs.YtponeoodgfgejaaDoor.SidG
open Go.RowKit Go.Proofs.YtponeoodgfgejaaDoorW.PrintWords Go.Proofs.YtponeoodgfgejaaDoor.QAll Txt PureA PureP HandA HandB HandC HandD HandE HandF HandG HandH HandI HandJ BufA BufB SidB SidC SidD

theorem off_of_far {w w1 : World} {O : Nat → Prop} (h : Far w w1 O) : Off w w1 O := ⟨⟨h.os, h.tape, h.output, h.size, fun k hk => by omega⟩, h.blk⟩
theorem far_of_off {w w1 : World} {O : Nat → Prop} (h : Off w w1 O) : Far w w1 O := ⟨h.zero.os, h.zero.tape, h.zero.output, h.zero.size, h.blk⟩
theorem C_blkeq {w w' : World} {ad : Addr} {n : Nat} {l : List Int} (h : Kd.C (Kd.int .u8) w (some ad) n l) (e : w'.heap[ad.block]? = w.heap[ad.block]?) : Kd.C (Kd.int .u8) w' (some ad) n l := by
  refine ⟨h.1, h.2.1, fun hn => ?_⟩
  obtain ⟨a2, ea, hc⟩ := h.2.2 hn
  obtain rfl := Option.some.inj ea
  refine ⟨_, rfl, fun j p' hj => ?_⟩
  obtain ⟨cs, h1, h2, h3⟩ := hc j p' hj
  refine ⟨cs, h1, h2, fun i u hu => ?_⟩
  refine (World.cell?_of_block ?_).trans (h3 i u hu)
  rw [show (ad.add (j * (Kd.int .u8).sz + i)).block = ad.block by unfold Addr.add; split <;> rfl]
  exact e
/-- The blocks of a Demuxer. -/
def Dw (dm gb : Nat) (rg : Option Nat) (sc rb : Nat) (X : Option Addr) (k : Nat) : Prop := Own sc rb X k ∨ k = dm ∨ k = gb ∨ rg = some k
/-- What a step leaves: nothing but own blocks has turned, and what is own now was own or is new. -/
structure Fr (w w' : World) (o o' : Nat → Prop) : Prop where
  far : Far w w' o
  new : ∀ k, o' k → o k ∨ w.heap.size ≤ k
theorem Fr.refl (w : World) (o : Nat → Prop) : Fr w w o o := ⟨Far.refl w o, fun k h => .inl h⟩
theorem Fr.trans {w w1 w2 : World} {o o1 o2 : Nat → Prop} (h : Fr w w1 o o1) (k : Fr w1 w2 o1 o2) : Fr w w2 o o2 :=
  ⟨h.far.trans2 k.far h.new, fun i hi => by
    rcases k.new i hi with q | q
    · exact h.new i q
    · exact .inr (Nat.le_trans h.far.size q)⟩
/-- A Demuxer. -/
structure Dm (w0 w : World) (dm gb sc rb : Nat) (kd mx : Int) (A : Option Addr) (D : List Int) (c pos : Nat) (X : Option Addr) (n cb : Nat) (rg : Option Nat) (pl : List Int) (P : Option Addr) (pc : Nat) (pd : List Int) : Prop where
  scn : Sc w0 w sc rb A D c pos X n cb
  row : w.heap[dm]? = some (.cells #[.int .i8 kd, .iface 69 (.pointer (some ⟨rb, 0, none⟩)), .pointer (some ⟨sc, 0, none⟩), .int .i64 mx, .slice P pd.length pc, .iface 55 (.pointer (some ⟨gb, 0, none⟩))] 77 (0, 0))
  buf : Buf w gb rg (pl.map (Value.int .u8))
  pend : Kd.C (Kd.int .u8) w P pd.length pd
  pcl : pd.length ≤ pc
  at_ : ∀ ad, P = some ad → ∃ ax, X = some ax ∧ ad.block = ax.block
  d1 : ¬ Own sc rb X dm
  d2 : dm ≠ gb
  d3 : rg ≠ some dm
  g1 : ¬ Own sc rb X gb
  g2 : ∀ k, rg = some k → ¬ Own sc rb X k
  b1 : w0.heap.size ≤ dm
  b2 : w0.heap.size ≤ gb
  b3 : ∀ k, rg = some k → w0.heap.size ≤ k
  pz : pd = [] → P = none ∧ pc = 0
section
variable {w0 w w' : World} {dm gb sc rb : Nat} {kd mx : Int} {A : Option Addr} {D : List Int} {c pos : Nat} {X : Option Addr} {n cb : Nat} {rg : Option Nat} {pl : List Int} {P : Option Addr} {pc : Nat} {pd : List Int}
theorem Dm.bel (h : Dm w0 w dm gb sc rb kd mx A D c pos X n cb rg pl P pc pd) : Below w0.heap.size w0 w := by obtain ⟨⟨ds, hs⟩, _⟩ := h.scn; exact hs.b
theorem Dm.lt (h : Dm w0 w dm gb sc rb kd mx A D c pos X n cb rg pl P pc pd) (k : Nat) (hk : Dw dm gb rg sc rb X k) : k < w.heap.size ∧ w0.heap.size ≤ k := by
  rcases hk with hk | rfl | rfl | hk
  · exact h.scn.lt k hk
  · exact ⟨blk_lt h.row, h.b1⟩
  · exact ⟨h.buf.lt, h.b2⟩
  · refine ⟨?_, h.b3 k hk⟩
    have hb := h.buf
    rw [hk] at hb
    exact hb.rlt.1
/-- Where other blocks turn, all is as it was. -/
theorem Dm.keep (h : Dm w0 w dm gb sc rb kd mx A D c pos X n cb rg pl P pc pd) (hb : Below w0.heap.size w0 w') (hk : ∀ k, Dw dm gb rg sc rb X k → w'.heap[k]? = w.heap[k]?) (ho : Off w w' (fun k => ¬ Dw dm gb rg sc rb X k)) : Dm w0 w' dm gb sc rb kd mx A D c pos X n cb rg pl P pc pd := by
  refine ⟨h.scn.keep hb (fun i hi => hk i (.inl hi)), (hk dm (.inr (.inl rfl))).trans h.row, h.buf.off ho (fun q => q (.inr (.inr (.inl rfl)))) (fun g hg q => q (.inr (.inr (.inr hg)))), ?_, h.pcl, h.at_, h.d1, h.d2, h.d3, h.g1, h.g2, h.b1, h.b2, h.b3, h.pz⟩
  by_cases q : 0 < pd.length
  · obtain ⟨ad, rfl, hat⟩ := C_cells h.pend q
    obtain ⟨ax, hx, e⟩ := h.at_ ad rfl
    have hd : Dw dm gb rg sc rb X ad.block := .inl (.inr (.inr ⟨ax, hx, e⟩))
    exact C_blkeq h.pend (hk _ hd)
  · have : pd = [] := List.length_eq_zero_iff.1 (by omega)
    subst this
    exact C_zero w' P []
theorem Dm.far (h : Dm w0 w dm gb sc rb kd mx A D c pos X n cb rg pl P pc pd) {S : Nat → Prop} (ho : Far w w' S) (hS : ∀ k, Dw dm gb rg sc rb X k → ¬ S k) (hB : ∀ k, S k → w0.heap.size ≤ k) : Dm w0 w' dm gb sc rb kd mx A D c pos X n cb rg pl P pc pd := by
  refine h.keep (h.bel.trans (ho.below h.bel.size hB)) (fun k hk => ho.blk k (h.lt k hk).1 (hS k hk)) ?_
  exact (off_of_far ho).mono (fun k _ hs hd => hS k hd hs)
end

theorem dm_cells {w : World} {dm gb sc rb : Nat} {kd mx : Int} {v : Value} (h : w.heap[dm]? = some (.cells #[.int .i8 kd, .iface 69 (.pointer (some ⟨rb, 0, none⟩)), .pointer (some ⟨sc, 0, none⟩), .int .i64 mx, v, .iface 55 (.pointer (some ⟨gb, 0, none⟩))] 77 (0, 0))) :
    w.cell? ⟨dm, 2, none⟩ = some (.pointer (some ⟨sc, 0, none⟩)) ∧ w.cell? ⟨dm, 3, none⟩ = some (.int .i64 mx) ∧ w.cell? ⟨dm, 4, none⟩ = some v ∧ w.frozen? ⟨dm, 4, none⟩ = false ∧ w.cell? ⟨dm, 5, none⟩ = some (.iface 55 (.pointer (some ⟨gb, 0, none⟩))) :=
  ⟨(Lib.cell_of_heap h 2).trans rfl, (Lib.cell_of_heap h 3).trans rfl, (Lib.cell_of_heap h 4).trans rfl, Lib.frozen_of_heap h 4, (Lib.cell_of_heap h 5).trans rfl⟩
section
variable {w0 w w' : World} {dm gb sc rb : Nat} {kd mx : Int} {A : Option Addr} {D : List Int} {c pos : Nat} {X : Option Addr} {n cb : Nat} {rg : Option Nat} {pl : List Int} {P : Option Addr} {pc : Nat} {pd : List Int}
/-- The pending bytes are set. -/
theorem Dm.set (h : Dm w0 w dm gb sc rb kd mx A D c pos X n cb rg pl P pc pd) {P2 : Option Addr} {pc2 : Nat} {pd2 : List Int} (hC : Kd.C (Kd.int .u8) w P2 pd2.length pd2) (hc : pd2.length ≤ pc2) (ha : ∀ ad, P2 = some ad → ∃ ax, X = some ax ∧ ad.block = ax.block) (hz : pd2 = [] → P2 = none ∧ pc2 = 0) :
    Dm w0 (w.setCell ⟨dm, 4, none⟩ (.slice P2 pd2.length pc2)) dm gb sc rb kd mx A D c pos X n cb rg pl P2 pc2 pd2 ∧ Fr w (w.setCell ⟨dm, 4, none⟩ (.slice P2 pd2.length pc2)) (Dw dm gb rg sc rb X) (Dw dm gb rg sc rb X) := by
  have hf : Far w (w.setCell ⟨dm, 4, none⟩ (.slice P2 pd2.length pc2)) (fun k => k = dm) := (Far.refl w (fun k => k = dm)).set (g := dm) (j := 4) rfl _
  have hbel := h.bel.trans (hf.below h.bel.size (fun k hk => by rw [hk]; exact h.b1))
  refine ⟨⟨h.scn.keep hbel (fun i hi => hf.blk i (h.scn.lt i hi).1 (fun e => h.d1 (e ▸ hi))), ?_, h.buf.off (off_of_far hf) (fun e => h.d2 e.symm) (fun g hg e => h.d3 (by rw [hg, e])), ?_, hc, ha, h.d1, h.d2, h.d3, h.g1, h.g2, h.b1, h.b2, h.b3, hz⟩, hf.mono (fun k hk => .inr (.inl hk)), fun k hk => .inl hk⟩
  · exact Lib.heap_setCell_same (i := 4) h.row _
  · by_cases q : 0 < pd2.length
    · obtain ⟨ad, rfl, _⟩ := C_cells hC q
      obtain ⟨ax, hx, e⟩ := ha ad rfl
      exact C_blkeq hC (Below.heap_setCell w ⟨dm, 4, none⟩ _ ad.block (fun k => h.d1 (.inr (.inr ⟨ax, hx, by have k : ad.block = dm := k; rw [← k]; exact e⟩))))
    · have : pd2 = [] := List.length_eq_zero_iff.1 (by omega)
      subst this
      exact C_zero _ P2 []
end

set_option maxHeartbeats 8000000 in
set_option maxRecDepth 100000 in
theorem getPending {w0 w : World} {dm gb sc rb : Nat} {kd mx : Int} {A : Option Addr} {D : List Int} {c pos : Nat} {X : Option Addr} {n cb : Nat} {rg : Option Nat} {pl : List Int} {P : Option Addr} {pc : Nat} {pd : List Int} (h : Dm w0 w dm gb sc rb kd mx A D c pos X n cb rg pl P pc pd) :
    Calls Tryd.prog 60 #[.pointer (some ⟨dm, 0, none⟩)] w fun e w' => (pd = [] ∧ e = .returned (.slice none 0 0) ∧ w' = w) ∨ (pd ≠ [] ∧ e = .returned (.slice P pd.length pc) ∧ w' = w.setCell ⟨dm, 4, none⟩ (.slice none 0 0)) := by
  obtain ⟨_, _, c4, f4, _⟩ := dm_cells h.row
  by_cases q : pd = []
  · subst q
    clear h
    have c4 : w.cell? ⟨dm, 4, none⟩ = some (.slice P 0 pc) := c4
    cases P <;>
    ( go_enter Tryd.func60, Tryd.ntmps60
      go_wp2
      go_ret
      exact .inl ⟨by first | rfl | trivial, rfl, rfl⟩)
  · have hp : 0 < pd.length := List.length_pos_iff.2 q
    obtain ⟨ad, rfl, _⟩ := C_cells h.pend hp
    have d0 : ((pd.length : Int) == 0) = false := by rw [beq_eq_false_iff_ne]; omega
    have Q := Aside0.mk q
    clear h q hp
    go_enter Tryd.func60, Tryd.ntmps60
    go_wp2
    go_ret
    exact .inr ⟨Q.out, rfl, rfl⟩
end Go.Proofs.YtponeoodgfgejaaDoor.SidG

set_option linter.unusedVariables false
set_option linter.unusedSimpArgs false
namespace Go.Proofs.YtponeoodgfgejaaDoor.SidH
open Go.RowKit Go.Proofs.YtponeoodgfgejaaDoorW.PrintWords Go.Proofs.YtponeoodgfgejaaDoor.QAll Txt PureA PureP HandA HandB HandC HandD HandE HandF HandG HandH HandI HandJ BufA BufB SidB SidC SidD SidG

/-- What is left of the stream. -/
structure Strm (D : List Int) (pos : Nat) (rs : List (List Int)) : Prop where
  d : D.drop pos = (enc rs).take (D.length - pos)
  l : D.length - pos = (enc rs).length
  p : pos ≤ D.length
/-- Bytes cut off in front, and the block in which they lie. -/
theorem cutB (a : Addr) (c : Nat) (D : List Int) (m : Nat) (hm : m ≤ D.length) (hc : D.length ≤ c) :
    ∃ A' : Option Addr, (∀ W : World, (Instr.slice 25 (.slice (some a) D.length c) (some (.int .i64 (m : Int))) none none).run Tryd.prog W = .ok (.slice A' (D.length - m) (c - m)) W) ∧
      (∀ W, Kd.C (Kd.int .u8) W (some a) D.length D → Kd.C (Kd.int .u8) W A' (D.length - m) (D.drop m)) ∧ ∃ ad, A' = some ad ∧ ad.block = a.block := by
  obtain ⟨A', h1, h2⟩ := cutD (some a) c D m hm hc
  obtain ⟨i, hi, _, hsz, _⟩ := info_parts (show (Tryd.prog.info? 5).map (fun i => (i.zero, i.size, i.bytes)) = some (some (.int .u8 0), 1, 1) by kernel_rfl)
  have h3 := cut_from (P := Tryd.prog) 25 5 .i64 Tryd.underlying25 hi 1 hsz (some a) D.length c (m : Int) (by omega) (by omega)
  refine ⟨A', h1, h2, ?_⟩
  have W : World := default
  have h4 := (h1 W).symm.trans (h3 W)
  injection h4 with h5 _
  injection h5 with h6 _ _
  rw [h6]
  split
  · exact ⟨a, rfl, rfl⟩
  · exact ⟨_, rfl, by unfold Addr.add; split <;> rfl⟩

section
variable {w0 w w' : World} {dm gb sc rb : Nat} {kd mx : Int} {A : Option Addr} {D : List Int} {c pos : Nat} {X : Option Addr} {n cb : Nat} {rg : Option Nat} {pl : List Int} {P : Option Addr} {pc : Nat} {pd : List Int}
theorem Dm.wrote (h : Dm w0 w dm gb sc rb kd mx A D c pos X n cb rg pl P pc pd) {t : List Int} (k : Wrote w w' gb rg (pl.map (Value.int .u8) ++ t.map (Value.int .u8))) :
    ∃ rg', Dm w0 w' dm gb sc rb kd mx A D c pos X n cb rg' (pl ++ t) P pc pd ∧ Fr w w' (Dw dm gb rg sc rb X) (Dw dm gb rg' sc rb X) := by
  obtain ⟨rg', hb, ho, hr⟩ := k
  have hf := far_of_off ho
  have hbel := h.bel.trans (hf.below h.bel.size (fun i hi => by rcases hi with rfl | hi; exact h.b2; exact h.b3 i hi))
  have hn : ∀ i, Own sc rb X i → ¬ (i = gb ∨ rg = some i) := fun i hi q => by
    rcases q with rfl | q
    · exact h.g1 hi
    · exact h.g2 i q hi
  have hrow := (hf.blk dm (blk_lt h.row) (by rintro (q | q); exact h.d2 q; exact h.d3 q)).trans h.row
  have hnew : ∀ g, rg' = some g → rg = some g ∨ w.heap.size ≤ g := fun g hg => by
    rcases hr with rfl | ⟨N, rfl, hN⟩
    · exact .inl hg
    · have := Option.some.inj hg
      exact .inr (by omega)
  refine ⟨rg', ⟨h.scn.keep hbel (fun i hi => hf.blk i (h.scn.lt i hi).1 (hn i hi)), hrow, by rw [List.map_append]; exact hb, ?_, h.pcl, h.at_, h.d1, h.d2, ?_, h.g1, ?_, h.b1, h.b2, ?_, h.pz⟩, hf.mono (fun i hi => by rcases hi with hi | hi; exact .inr (.inr (.inl hi)); exact .inr (.inr (.inr hi))), ?_⟩
  · by_cases q : 0 < pd.length
    · obtain ⟨ad, rfl, _⟩ := C_cells h.pend q
      obtain ⟨ax, hx, e⟩ := h.at_ ad rfl
      have ho : Own sc rb X ad.block := .inr (.inr ⟨ax, hx, e⟩)
      exact C_blkeq h.pend (hf.blk _ (h.scn.lt _ ho).1 (hn _ ho))
    · have : pd = [] := List.length_eq_zero_iff.1 (by omega)
      subst this
      exact C_zero _ P []
  · intro q
    rcases hnew dm q with q | q
    · exact h.d3 q
    · have := blk_lt h.row; omega
  · intro g hg ho
    rcases hnew g hg with q | q
    · exact h.g2 g q ho
    · have := (h.scn.lt g ho).1; omega
  · intro g hg
    rcases hnew g hg with q | q
    · exact h.b3 g q
    · have := h.bel.size; omega
  · intro i hi
    rcases hi with hi | hi | hi | hi
    · exact .inl (.inl hi)
    · exact .inl (.inr (.inl hi))
    · exact .inl (.inr (.inr (.inl hi)))
    · rcases hnew i hi with q | q
      · exact .inl (.inr (.inr (.inr q)))
      · exact .inr q
/-- Scan of one payload. -/
theorem scanDm {aE aU aI : Addr} {q : List Int} {rs : List (List Int)} (h : Dm w0 w dm gb sc rb kd mx A D c pos X n cb rg pl none 0 []) (hs : Sent w0 aE aU aI) (hD : Dat w0 A D c) (hst : Strm D pos (q :: rs)) (hq : PureP.Good q) :
    Calls Tryd.prog 30 #[.pointer (some ⟨sc, 0, none⟩)] w fun e w' => e = .returned (.bool true) ∧ ∃ X' cb', Dm w0 w' dm gb sc rb kd mx A D c (pos + 4 + q.length) X' q.length cb' rg pl none 0 [] ∧ Kd.C (Kd.int .u8) w' X' q.length q ∧ q.length ≤ cb' ∧ Fr w w' (Dw dm gb rg sc rb X) (Dw dm gb rg sc rb X') ∧ Strm D (pos + 4 + q.length) rs := by
  have hl := hst.l
  rw [enc_cons, List.length_append, lineOf_len] at hl
  have hp := hst.p
  obtain ⟨d0, d1, d2, d3, hseg, _, g0, g1, g2, g3, hm⟩ := PureP.step D pos q rs hq.len hst.d (by omega)
  obtain ⟨hb1, hb2⟩ := step_body D pos q rs hq.len hst.d (by omega)
  obtain ⟨⟨ds, hS⟩, hP⟩ := h.scn
  refine (scanAll w0 sc rb A D c pos .nilIface X n cb ds aE aU aI w hS hs hD hP d0 d1 d2 d3 (by omega) hseg g0 g1 g2 g3 q.length hm (by omega) (by rw [hb1]; exact hq.no)).mono ?_
  rintro e w' ⟨rfl, X', cb', ds', h3, hp3, hc3, hf3, hx3⟩
  rw [hb1] at hc3
  have hown : ∀ k, Own sc rb X' k → Own sc rb X k ∨ w.heap.size ≤ k := fun k hk => by
    rcases hk with hk | hk | ⟨ad, e, rfl⟩
    · exact .inl (.inl hk)
    · exact .inl (.inr (.inl hk))
    · rcases hx3 ad e with q | q
      · exact .inl (.inr (.inr ⟨ad, q, rfl⟩))
      · exact .inr q
  refine ⟨rfl, X', cb', ⟨⟨⟨_, h3⟩, hp3⟩, (hf3.blk dm (blk_lt h.row) h.d1).trans h.row, h.buf.off (off_of_far hf3) h.g1 (fun g hg => h.g2 g hg), C_zero _ none [], Nat.le_refl _, (fun ad e => by cases e), ?_, h.d2, h.d3, ?_, ?_, h.b1, h.b2, h.b3, fun _ => ⟨rfl, rfl⟩⟩, hc3, hp3.n, ⟨hf3.mono (fun k hk => .inl hk), ?_⟩, ⟨hb2, by omega, by omega⟩⟩
  · intro k
    rcases hown _ k with k | k
    · exact h.d1 k
    · have := blk_lt h.row; omega
  · intro k
    rcases hown _ k with k | k
    · exact h.g1 k
    · have := h.buf.lt; omega
  · intro g hg k
    rcases hown _ k with k | k
    · exact h.g2 g hg k
    · have := (h.lt g (.inr (.inr (.inr hg)))).1; omega
  · intro k hk
    rcases hk with hk | hk
    · rcases hown k hk with q | q
      · exact .inl (.inl q)
      · exact .inr q
    · exact .inl (.inr hk)
end

/-- A Demuxer between two steps: ds are the payloads ahead of the one for errors. -/
def DS (w0 w : World) (dm gb sc rb : Nat) (kd mx : Int) (A : Option Addr) (D : List Int) (c : Nat) (te : List Int) (ds : List (List Int)) (P : Option Addr) (pc : Nat) (pd : List Int) (own : Nat → Prop) : Prop :=
  ∃ pos X n cb rg pl, Dm w0 w dm gb sc rb kd mx A D c pos X n cb rg pl P pc pd ∧ Strm D pos (ds ++ [3 :: te]) ∧ own = Dw dm gb rg sc rb X ∧ pl.length + (enc ds).length ≤ 1000000000
/-- A Demuxer with nothing pending, and bytes of its payload that are lent. -/
def LD (w0 w : World) (dm gb sc rb : Nat) (kd mx : Int) (A : Option Addr) (D : List Int) (c : Nat) (te : List Int) (ds : List (List Int)) (P : Option Addr) (pc : Nat) (t : List Int) (own : Nat → Prop) : Prop :=
  ∃ pos X n cb rg pl, Dm w0 w dm gb sc rb kd mx A D c pos X n cb rg pl none 0 [] ∧ Strm D pos (ds ++ [3 :: te]) ∧ own = Dw dm gb rg sc rb X ∧ pl.length + (enc ds).length ≤ 1000000000 ∧
    Kd.C (Kd.int .u8) w P t.length t ∧ t.length ≤ pc ∧ (∀ ad, P = some ad → ∃ ax, X = some ax ∧ ad.block = ax.block) ∧ (t = [] → P = none)
/-- A Demuxer behind an error. -/
def DE (w0 w : World) (dm gb sc rb : Nat) (kd mx : Int) (A : Option Addr) (D : List Int) (c : Nat) (own : Nat → Prop) : Prop :=
  ∃ pos X n cb rg pl, Dm w0 w dm gb sc rb kd mx A D c pos X n cb rg pl none 0 [] ∧ own = Dw dm gb rg sc rb X
/-- Payloads as a Demuxer takes them. -/
structure Pks (mx : Int) (ds : List (List Int)) (te : List Int) : Prop where
  pk : ∀ q ∈ ds, ∃ a t, q = a :: t ∧ (a = 1 ∨ a = 2) ∧ t ≠ [] ∧ (t.length : Int) + 1 ≤ mx ∧ t.length ≤ 65000
  e0 : te ≠ []
  e1 : (te.length : Int) + 1 ≤ mx
  e2 : te.length ≤ 65000
theorem Pks.tail {mx : Int} {q : List Int} {ds : List (List Int)} {te : List Int} (h : Pks mx (q :: ds) te) : Pks mx ds te := ⟨fun x hx => h.pk x (List.mem_cons_of_mem _ hx), h.e0, h.e1, h.e2⟩
theorem good_of (a : Int) (t : List Int) (h : a = 1 ∨ a = 2 ∨ a = 3) (ht : t.length ≤ 65000) : PureP.Good (a :: t) := by
  refine ⟨by simp; omega, fun k => ?_⟩
  have h5 := congrArg (fun l => l[0]?) k
  simp only [List.take_succ_cons] at h5
  have e1 : (strOfNums (a :: t.take 3)).toList[0]? = some (a.toNat.toUInt8) := by
    simp [strOfNums]
  have e2 : (strOfNums [69, 82, 82, 32]).toList[0]? = some (69 : UInt8) := by decide +kernel
  rw [e1, e2] at h5
  have h6 := Option.some.inj h5
  rcases h with rfl | rfl | rfl <;> exact absurd h6 (by decide)
theorem txt_cons1 (t : List Int) (ds : List (List Int)) : txt 1 ((1 :: t) :: ds) = t ++ txt 1 ds := by unfold txt; simp
theorem txt_cons2 (t : List Int) (ds : List (List Int)) : txt 1 ((2 :: t) :: ds) = txt 1 ds := by unfold txt; simp

set_option maxHeartbeats 8000000 in
set_option maxRecDepth 100000 in
theorem errNew (s : ByteArray) (W : World) : Calls Tryd.prog 61 #[.string s] W fun x w' => x = .returned (.iface 126 (.pointer (some ⟨W.heap.size, 0, none⟩))) ∧ w'.heap[W.heap.size]? = some (.cells #[.string s] 128 (0, 0)) ∧ Below W.heap.size W w' := by
  go_enter Tryd.func61, Tryd.ntmps61
  go_wp2
  go_ret
  exact ⟨rfl, heap_alloc_new W _, below_alloc (Below.refl _ _) _⟩

set_option maxHeartbeats 16000000 in
set_option maxRecDepth 100000 in
theorem nextPackData {w0 w : World} {dm gb sc rb : Nat} {kd mx : Int} {A : Option Addr} {D : List Int} {c : Nat} {te : List Int} {ds : List (List Int)} {P : Option Addr} {pc : Nat} {pd : List Int} {own : Nat → Prop} {aE aU aI : Addr} (h : DS w0 w dm gb sc rb kd mx A D c te ds P pc pd own) (hs : Sent w0 aE aU aI) (hD : Dat w0 A D c) (hk : Pks mx ds te) :
    Calls Tryd.prog 49 #[.pointer (some ⟨dm, 0, none⟩)] w fun e w' =>
      (∃ P' pc' t ds' own', e = .returned (.tuple #[.slice P' t.length pc', .nilIface]) ∧ LD w0 w' dm gb sc rb kd mx A D c te ds' P' pc' t own' ∧ Fr w w' own own' ∧ Pks mx ds' te ∧ t ++ txt 1 ds' = pd ++ txt 1 ds ∧ (enc ds').length + t.length ≤ (enc ds).length + pd.length ∧ (t = [] → (enc ds').length < (enc ds).length + pd.length)) ∨
      (pd = [] ∧ ds = [] ∧ ∃ g own', e = .returned (.tuple #[.slice none 0 0, .iface 126 (.pointer (some ⟨g, 0, none⟩))]) ∧ w.heap.size ≤ g ∧ DE w0 w' dm gb sc rb kd mx A D c own' ∧ Fr w w' own own' ∧ ∃ cs ty, w'.heap[g]? = some (.cells cs ty (0, 0))) := by
  obtain ⟨pos, X, n, cb, rg, pl, hd, hst, rfl, hbd⟩ := h
  have HBD := Aside0.mk hbd
  by_cases hpd : pd = []
  · subst hpd
    obtain ⟨rfl, rfl⟩ := hd.pz rfl
    have hgp := getPending hd
    obtain ⟨c2, c3, c4, c4f, c5⟩ := dm_cells hd.row
    have HGP : Aside0 (Calls Tryd.prog 60 #[.pointer (some ⟨dm, 0, none⟩)] w fun e w' => e = .returned (.slice none 0 0) ∧ w' = w) := ⟨hgp.mono (fun e w' h => by
      rcases h with ⟨_, h1, h2⟩ | ⟨h1, _⟩
      · exact ⟨h1, h2⟩
      · exact absurd rfl h1)⟩
    rcases ds with _ | ⟨q, ds⟩
    · have HSC := Aside0.mk (scanDm hd hs hD hst (good_of 3 te (.inr (.inr rfl)) hk.e2))
      have z3 : decide (mx < (te.length : Int) + 1) = false := decide_eq_false (by have := hk.e1; omega)
      have HD0 := Aside0.mk hd
      have HK := Aside0.mk hk
      clear hd hgp hst hs hD hk hbd
      go_enter Tryd.func49, Tryd.ntmps49
      go_wp2_with (first
        | (go_at_call 60
           (with_reducible refine HGP.out.mono ?_)
           rintro x w1 ⟨rfl, rfl⟩)
        | (go_at_call 30
           (with_reducible refine HSC.out.mono ?_)
           rintro x w2 ⟨rfl, X', cb', hd2, hc2, hcb2, hf2, hst2⟩
           obtain ⟨ax, rfl, hat⟩ := C_cells hc2 (by simp)
           obtain ⟨e2, e3, e4, e4f, e5⟩ := dm_cells hd2.row
           obtain ⟨⟨ds2, hS2⟩, hP2⟩ := hd2.scn
           have HBY := Aside0.mk (bytesOf_ sc _ w2 (St_cells hS2).2.2.1)
           have hy0 : w2.cell? (ax.add 0) = some (.int .u8 3) := hat 0 3 rfl
           have ha0 : ax.add 0 = ax := by unfold Addr.add; split <;> simp_all
           have hy1 : w2.cell? ax = some (.int .u8 3) := by rw [ha0] at hy0; exact hy0
           obtain ⟨A2, hcut, hC2, a2, rfl, hblk⟩ := cutB ax cb' (3 :: te) 1 (by simp) hcb2
           have HC2 : Aside0 (Kd.C (Kd.int .u8) w2 (some a2) te.length te) := ⟨hC2 w2 hc2⟩
           have hcut : ∀ W : World, (Instr.slice 25 (.slice (some ax) (te.length + 1) cb') (some (.int .i64 1)) none none).run Tryd.prog W = .ok (.slice (some a2) te.length (cb' - 1)) W := hcut
           have HD2 := Aside0.mk hd2
           have HF2 := Aside0.mk hf2
           have HST2 := Aside0.mk hst2
           have HCB2 : Aside0 (te.length ≤ cb' - 1) := ⟨by simp only [List.length_cons] at hcb2; omega⟩
           have HA2 : Aside0 (a2.block = ax.block) := ⟨hblk⟩
           have e5d : w2.drew.cell? ⟨dm, 5, none⟩ = some (.iface 55 (.pointer (some ⟨gb, 0, none⟩))) := (Same.drew w2).cell e5
           clear hd2 hc2 hcb2 hf2 hst2 hat hS2 hP2 ha0 hC2 hblk)
        | (go_at_call 31
           (with_reducible refine HBY.out.mono ?_)
           rintro x w3 ⟨rfl, rfl⟩)
        | fail)

      go_wp2_with (first
        | (go_at_call 61
           (with_reducible refine (errNew _ _).mono ?_)
           rintro x w4 ⟨rfl, hr4, hb4⟩
           have HR4 := Aside0.mk hr4
           have HB4 := Aside0.mk hb4
           clear hb4 hr4)
        | fail)
      go_ret2
      have hd4 := HD2.out.far (Far.of_below HB4.out (fun _ => False)) (fun _ _ h => h) (fun _ h => h.elim)
      exact .inr ⟨by first | rfl | trivial, by first | rfl | trivial, _, _, rfl, HF2.out.far.size, ⟨_, _, _, _, _, _, hd4, rfl⟩, HF2.out.trans ⟨Far.of_below HB4.out _, fun k h => .inl h⟩, _, _, HR4.out⟩
    · obtain ⟨a, t, rfl, ha, ht0, ht1, ht2⟩ := hk.pk q List.mem_cons_self
      have HSC := Aside0.mk (scanDm hd hs hD hst (good_of a t (by omega) ht2))
      have z3 : decide (mx < (t.length : Int) + 1) = false := decide_eq_false (by omega)
      have HD0 := Aside0.mk hd
      have HK := Aside0.mk hk
      have HT0 := Aside0.mk ht0
      clear hd hgp hst hs hD hk hbd ht0 ht1 ht2
      rcases ha with rfl | rfl
      · go_enter Tryd.func49, Tryd.ntmps49
        go_wp2_with (first
          | (go_at_call 60
             (with_reducible refine HGP.out.mono ?_)
             rintro x w1 ⟨rfl, rfl⟩)
          | (go_at_call 30
             (with_reducible refine HSC.out.mono ?_)
             rintro x w2 ⟨rfl, X', cb', hd2, hc2, hcb2, hf2, hst2⟩
             obtain ⟨ax, rfl, hat⟩ := C_cells hc2 (by simp)
             obtain ⟨e2, e3, e4, e4f, e5⟩ := dm_cells hd2.row
             obtain ⟨⟨ds2, hS2⟩, hP2⟩ := hd2.scn
             have HBY := Aside0.mk (bytesOf_ sc _ w2 (St_cells hS2).2.2.1)
             have hy0 : w2.cell? (ax.add 0) = some (.int .u8 1) := hat 0 1 rfl
             have ha0 : ax.add 0 = ax := by unfold Addr.add; split <;> simp_all
             have hy1 : w2.cell? ax = some (.int .u8 1) := by rw [ha0] at hy0; exact hy0
             obtain ⟨A2, hcut, hC2, a2, rfl, hblk⟩ := cutB ax cb' (1 :: t) 1 (by simp) hcb2
             have HC2 : Aside0 (Kd.C (Kd.int .u8) w2 (some a2) t.length t) := ⟨hC2 w2 hc2⟩
             have hcut : ∀ W : World, (Instr.slice 25 (.slice (some ax) (t.length + 1) cb') (some (.int .i64 1)) none none).run Tryd.prog W = .ok (.slice (some a2) t.length (cb' - 1)) W := hcut
             have HD2 := Aside0.mk hd2
             have HF2 := Aside0.mk hf2
             have HST2 := Aside0.mk hst2
             have HCB2 : Aside0 (t.length ≤ cb' - 1) := ⟨by simp only [List.length_cons] at hcb2; omega⟩
             have HA2 : Aside0 (a2.block = ax.block) := ⟨hblk⟩
             have e5d : w2.drew.cell? ⟨dm, 5, none⟩ = some (.iface 55 (.pointer (some ⟨gb, 0, none⟩))) := (Same.drew w2).cell e5
             clear hd2 hc2 hcb2 hf2 hst2 hat hS2 hP2 ha0 hC2 hblk)
          | (go_at_call 31
             (with_reducible refine HBY.out.mono ?_)
             rintro x w3 ⟨rfl, rfl⟩)
          | fail)

        go_ret2
        refine .inl ⟨some a2, cb' - 1, t, ds, _, rfl, ⟨_, _, _, _, _, _, HD2.out, HST2.out, rfl, ?_, HC2.out, HCB2.out, (fun ad e => by cases e; exact ⟨ax, rfl, HA2.out⟩), (fun k => absurd k HT0.out)⟩, HF2.out, HK.out.tail, (txt_cons1 t ds).symm, ?_, ?_⟩
        · have := HBD.out; rw [enc_cons, List.length_append] at this; omega
        · rw [enc_cons, List.length_append, lineOf_len, List.length_cons]; omega
        · intro k; exact absurd k HT0.out
      · have hmw := fun g W => methodW 268/-FUEL-/ g W
        go_enter Tryd.func49, Tryd.ntmps49
        go_wp2_with (first
          | (go_at_call 60
             (with_reducible refine HGP.out.mono ?_)
             rintro x w1 ⟨rfl, rfl⟩)
          | (go_at_call 30
             (with_reducible refine HSC.out.mono ?_)
             rintro x w2 ⟨rfl, X', cb', hd2, hc2, hcb2, hf2, hst2⟩
             obtain ⟨ax, rfl, hat⟩ := C_cells hc2 (by simp)
             obtain ⟨e2, e3, e4, e4f, e5⟩ := dm_cells hd2.row
             obtain ⟨⟨ds2, hS2⟩, hP2⟩ := hd2.scn
             have HBY := Aside0.mk (bytesOf_ sc _ w2 (St_cells hS2).2.2.1)
             have hy0 : w2.cell? (ax.add 0) = some (.int .u8 2) := hat 0 2 rfl
             have ha0 : ax.add 0 = ax := by unfold Addr.add; split <;> simp_all
             have hy1 : w2.cell? ax = some (.int .u8 2) := by rw [ha0] at hy0; exact hy0
             obtain ⟨A2, hcut, hC2, a2, rfl, hblk⟩ := cutB ax cb' (2 :: t) 1 (by simp) hcb2
             have HC2 : Aside0 (Kd.C (Kd.int .u8) w2 (some a2) t.length t) := ⟨hC2 w2 hc2⟩
             have hcut : ∀ W : World, (Instr.slice 25 (.slice (some ax) (t.length + 1) cb') (some (.int .i64 1)) none none).run Tryd.prog W = .ok (.slice (some a2) t.length (cb' - 1)) W := hcut
             have HD2 := Aside0.mk hd2
             have HF2 := Aside0.mk hf2
             have HST2 := Aside0.mk hst2
             have HCB2 : Aside0 (t.length ≤ cb' - 1) := ⟨by simp only [List.length_cons] at hcb2; omega⟩
             have HA2 : Aside0 (a2.block = ax.block) := ⟨hblk⟩
             have e5d : w2.drew.cell? ⟨dm, 5, none⟩ = some (.iface 55 (.pointer (some ⟨gb, 0, none⟩))) := (Same.drew w2).cell e5
             clear hd2 hc2 hcb2 hf2 hst2 hat hS2 hP2 ha0 hC2 hblk)
          | (go_at_call 31
             (with_reducible refine HBY.out.mono ?_)
             rintro x w3 ⟨rfl, rfl⟩)
          | fail)

        have HWT : Aside0 (∀ nn, nn = t.length → Calls Tryd.prog 28 #[.pointer (some ⟨gb, 0, none⟩), .slice (some a2) nn (cb' - 1)] w3.drew fun x w' => x = .returned (.tuple #[.int .i64 nn, .nilIface]) ∧ Wrote w3.drew w' gb rg (pl.map (Value.int .u8) ++ t.map (Value.int .u8))) := ⟨fun nn hnn => by
          subst hnn
          have hd2 := HD2.out.far (Far.of_same (Same.drew w3) (fun _ => False)) (fun _ _ h => h) (fun _ h => h.elim)
          have hpos : 0 < t.length := List.length_pos_iff.2 HT0.out
          obtain ⟨a3, e3, hat⟩ := C_cells HC2.out hpos
          cases e3
          refine write gb rg (pl.map (Value.int .u8)) (t.map (Value.int .u8)) a2 t.length (cb' - 1) w3.drew hd2.buf (one_u8 pl) (by simp) hpos ?_ ?_ (one_u8 t) ?_
          · intro k
            exact hd2.g1 (.inr (.inr ⟨ax, rfl, by rw [← HA2.out, k]⟩))
          · intro j v hj
            rw [List.getElem?_map] at hj
            obtain ⟨x, hx, rfl⟩ := Option.map_eq_some_iff.1 hj
            exact (Same.drew w3).cell (hat j x hx)
          · have := HBD.out
            rw [enc_cons, List.length_append, lineOf_len, List.length_cons] at this
            rw [List.length_map]
            omega⟩
        go_region_law (first
          | (go_simp
             go_at_call 28
             (with_reducible refine (HWT.out _ rfl).mono ?_)
             rintro x w4 ⟨rfl, hwr⟩
             have HWR := Aside0.mk hwr
             clear hwr)
          | fail)
        all_goals (
          go_wp2
          go_ret2
          have hd2 := HD2.out.far (Far.of_same (Same.drew w3) (fun _ => False)) (fun _ _ h => h) (fun _ h => h.elim)
          obtain ⟨rg', hd4, hf4⟩ := Dm.wrote hd2 HWR.out
          refine .inl ⟨none, 0, [], ds, _, rfl, ⟨_, _, _, _, _, _, hd4, HST2.out, rfl, ?_, C_zero _ none [], Nat.le_refl _, (fun ad e => by cases e), (fun _ => rfl)⟩, HF2.out.trans (Fr.trans ⟨Far.of_same (Same.drew w3) _, fun k h => .inl h⟩ hf4), HK.out.tail, by rw [txt_cons2]; simp, ?_, ?_⟩
          · have := HBD.out; rw [enc_cons, List.length_append, lineOf_len, List.length_cons] at this; rw [List.length_append]; omega
          · rw [enc_cons, List.length_append]; simp
          · intro _; rw [enc_cons, List.length_append, lineOf_len]; omega)
  · have hgp := getPending hd
    have hs4 := hd.set (P2 := none) (pc2 := 0) (pd2 := []) (C_zero _ none []) (Nat.le_refl _) (fun ad e => by cases e) (fun _ => ⟨rfl, rfl⟩)
    obtain ⟨hs4a, hs4b⟩ := hs4
    have hpl : 0 < pd.length := List.length_pos_iff.2 hpd
    have HGP : Aside0 (Calls Tryd.prog 60 #[.pointer (some ⟨dm, 0, none⟩)] w fun e w' => e = .returned (.slice P pd.length pc) ∧ w' = w.setCell ⟨dm, 4, none⟩ (.slice none 0 0)) := ⟨hgp.mono (fun e w' h => by
      rcases h with ⟨h1, _⟩ | ⟨_, h1, h2⟩
      · exact absurd h1 hpd
      · exact ⟨h1, h2⟩)⟩
    have hCP : Kd.C (Kd.int .u8) (w.setCell ⟨dm, 4, none⟩ (.slice none 0 0)) P pd.length pd := by
      obtain ⟨ad, rfl, _⟩ := C_cells hd.pend hpl
      obtain ⟨ax, hx, e⟩ := hd.at_ ad rfl
      exact C_blkeq hd.pend (Below.heap_setCell w ⟨dm, 4, none⟩ _ ad.block (fun k => hd.d1 (.inr (.inr ⟨ax, hx, by have k : ad.block = dm := k; rw [← k]; exact e⟩))))
    have HFIN : Aside0 (∃ P' pc' t ds' own', Ending.returned (.tuple #[.slice P pd.length pc, .nilIface]) = .returned (.tuple #[.slice P' t.length pc', .nilIface]) ∧ LD w0 (w.setCell ⟨dm, 4, none⟩ (.slice none 0 0)) dm gb sc rb kd mx A D c te ds' P' pc' t own' ∧ Fr w (w.setCell ⟨dm, 4, none⟩ (.slice none 0 0)) (Dw dm gb rg sc rb X) own' ∧ Pks mx ds' te ∧ t ++ txt 1 ds' = pd ++ txt 1 ds ∧ (enc ds').length + t.length ≤ (enc ds).length + pd.length ∧ (t = [] → (enc ds').length < (enc ds).length + pd.length)) := ⟨P, pc, pd, ds, _, rfl, ⟨_, _, _, _, _, _, hs4a, hst, rfl, hbd, hCP, hd.pcl, hd.at_, (fun k => absurd k hpd)⟩, hs4b, hk, rfl, Nat.le_refl _, fun k => absurd k hpd⟩
    have d0 : ((pd.length : Int) != 0) = true := by rw [bne_iff_ne]; omega
    clear hd hst hs hD hk hbd hgp hs4a hs4b hpl hCP HBD
    go_enter Tryd.func49, Tryd.ntmps49
    go_wp2_with (first
      | (go_at_call 60
         (with_reducible refine HGP.out.mono ?_)
         rintro x w1 ⟨rfl, rfl⟩)
      | fail)
    go_ret2
    exact .inl HFIN.out
end Go.Proofs.YtponeoodgfgejaaDoor.SidH
