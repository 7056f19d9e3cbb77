/- bytes.Buffer.Write of nothing; sideband.NewDemuxer. impl.Demux. -/
import Derived.Test.YtponeoodgfgejaaDoorSidI
set_option linter.unusedVariables false
set_option linter.unusedSimpArgs false
namespace Go.Proofs.YtponeoodgfgejaaDoor.SidK
open Go.RowKit Go.Proofs.YtponeoodgfgejaaDoorW.PrintWords Go.Proofs.YtponeoodgfgejaaDoor.QAll Txt PureA PureP HandA HandB HandC HandD HandE HandF HandG HandH HandI HandJ BufA BufB SidB SidC SidD SidG SidH SidI SidJ

set_option maxHeartbeats 6400000 in
set_option maxRecDepth 100000 in
/-- Write of no byte. -/
theorem write0 (b : Nat) (r : Option Nat) (bs : List Value) (a : Addr) (c : Nat) (w : World) (h : Buf w b r bs) (hl : bs.length ≤ 1000000000) :
    Calls Tryd.prog 28 #[.pointer (some ⟨b, 0, none⟩), .slice (some a) 0 c] w fun e w' => e = .returned (.tuple #[.int .i64 0, .nilIface]) ∧ Wrote w w' b r bs := by
  obtain ⟨lr, c2, f2⟩ := buf_last h
  have h' := buf_setLast h 0
  have ho0 := Off.set w b 2 (.int .i8 0)
  cases r with
  | none =>
    obtain ⟨rfl, lr2, hbk⟩ := h'
    have c0 : (w.setCell ⟨b, 2, none⟩ (.int .i8 0)).cell? ⟨b, 0, none⟩ = some (.slice none 0 0) := (Lib.cell_of_heap hbk 0).trans rfl
    have hbk2 := Lib.heap_setCell_same (i := 0) hbk (.slice none 0 0)
    have HT : Aside0 (Calls Tryd.prog 39 #[.pointer (some ⟨b, 0, none⟩), .int .i64 0] (w.setCell ⟨b, 2, none⟩ (.int .i8 0)) fun e w' => e = .returned (.tuple #[.int .i64 0, .bool true]) ∧ w' = (w.setCell ⟨b, 2, none⟩ (.int .i8 0)).setCell ⟨b, 0, none⟩ (.slice none 0 0)) := ⟨Tryd.Buffer_tryGrow_room b none 0 0 0 _ c0 (Lib.frozen_of_heap hbk 0) (Nat.le_refl _) (Nat.zero_le _) (Nat.zero_le _)⟩
    have c3 : ((w.setCell ⟨b, 2, none⟩ (.int .i8 0)).setCell ⟨b, 0, none⟩ (.slice none 0 0)).cell? ⟨b, 0, none⟩ = some (.slice none 0 0) := (Lib.cell_of_heap hbk2 0).trans rfl
    have hcp : ∀ W : World, (Builtin.copy_ #[25, 25] 3 #[.slice none 0 0, .slice (some a) 0 c]).run Tryd.prog W = .ok (goInt 0) W := fun W => run_copy_none W 25 25 3 5 _ _ 0 0 0 c Tryd.underlying25 info5sz' (by simp)
    have HW : Aside0 (Wrote w ((w.setCell ⟨b, 2, none⟩ (.int .i8 0)).setCell ⟨b, 0, none⟩ (.slice none 0 0)) b none []) := ⟨none, ⟨rfl, lr2, hbk2⟩, (ho0.trans (Off.set _ b 0 _) (fun _ _ h => h)).mono (fun _ _ h => .inl h), .inl rfl⟩
    clear h ho0 hbk hbk2 c0
    go_enter Tryd.func28, Tryd.ntmps28
    go_wp2_with (first
      | (go_at_call 39
         (with_reducible refine HT.out.mono ?_)
         rintro e W1 ⟨rfl, rfl⟩)
      | fail)
    go_ret2
    exact ⟨rfl, HW.out⟩
  | some g =>
    obtain ⟨cap, lr2, cur, hbk, hg, hnc, hcm, hcs, htk, hgb⟩ := h'
    have c0 : (w.setCell ⟨b, 2, none⟩ (.int .i8 0)).cell? ⟨b, 0, none⟩ = some (.slice (some ⟨g, 0, none⟩) bs.length cap) := (Lib.cell_of_heap hbk 0).trans rfl
    have hbk2 := Lib.heap_setCell_same (i := 0) hbk (.slice (some ⟨g, 0, none⟩) bs.length cap)
    have HT : Aside0 (Calls Tryd.prog 39 #[.pointer (some ⟨b, 0, none⟩), .int .i64 0] (w.setCell ⟨b, 2, none⟩ (.int .i8 0)) fun e w' => e = .returned (.tuple #[.int .i64 (bs.length : Nat), .bool true]) ∧ w' = (w.setCell ⟨b, 2, none⟩ (.int .i8 0)).setCell ⟨b, 0, none⟩ (.slice (some ⟨g, 0, none⟩) bs.length cap)) := ⟨Tryd.Buffer_tryGrow_room b (some ⟨g, 0, none⟩) bs.length cap 0 _ c0 (Lib.frozen_of_heap hbk 0) hnc hcm (Nat.zero_le _)⟩
    have c3 : ((w.setCell ⟨b, 2, none⟩ (.int .i8 0)).setCell ⟨b, 0, none⟩ (.slice (some ⟨g, 0, none⟩) bs.length cap)).cell? ⟨b, 0, none⟩ = some (.slice (some ⟨g, 0, none⟩) bs.length cap) := (Lib.cell_of_heap hbk2 0).trans rfl
    obtain ⟨i, hi, _, hsz, _⟩ := info_parts info5'
    obtain ⟨A', hcut, _⟩ := print_cut_of (P := Tryd.prog) (Value.int .u8) 0 25 5 .i64 Tryd.underlying25 hi hsz (some ⟨g, 0, none⟩) bs.length cap bs.length (Nat.le_refl _)
    have hcut : ∀ W : World, (Instr.slice 25 (.slice (some ⟨g, 0, none⟩) bs.length cap) (some (.int .i64 (bs.length : Int))) none none).run Tryd.prog W = .ok (.slice A' 0 (cap - bs.length)) W := by rw [Nat.sub_self] at hcut; exact hcut
    have hcp : ∀ (W : World) (k : Nat), (Builtin.copy_ #[25, 25] 3 #[.slice A' 0 k, .slice (some a) 0 c]).run Tryd.prog W = .ok (goInt 0) W := fun W k => run_copy_none W 25 25 3 5 _ _ 0 k 0 c Tryd.underlying25 info5sz' (by simp)
    have HW : Aside0 (Wrote w ((w.setCell ⟨b, 2, none⟩ (.int .i8 0)).setCell ⟨b, 0, none⟩ (.slice (some ⟨g, 0, none⟩) bs.length cap)) b (some g) bs) := ⟨some g, ⟨cap, lr2, cur, hbk2, (Below.heap_setCell _ _ _ _ hgb).trans hg, hnc, hcm, hcs, htk, hgb⟩, (ho0.trans (Off.set _ b 0 _) (fun _ _ h => h)).mono (fun _ _ h => .inl h), .inl rfl⟩
    have hbl : (bs.length : Int) ≤ 1000000000 := by omega
    clear h ho0 hbk hbk2 c0 hg hcs htk hgb hcm
    go_enter Tryd.func28, Tryd.ntmps28
    go_wp2_with (first
      | (go_at_call 39
         (with_reducible refine HT.out.mono ?_)
         rintro e W1 ⟨rfl, rfl⟩)
      | fail)
    go_ret2
    exact ⟨rfl, HW.out⟩

/-- The greatest payload for a kind of side band, as a Demuxer has it. -/
def mxD (wide : Bool) : Int := if wide then 65520 else 1000
set_option maxHeartbeats 8000000 in
set_option maxRecDepth 100000 in
theorem newDemuxer (wide : Bool) (rb : Nat) (W : World) : Calls Tryd.prog 25 #[.int .i8 (if wide then 1 else 0), .iface 69 (.pointer (some ⟨rb, 0, none⟩))] W fun x w' => ∃ sc dm, x = .returned (.pointer (some ⟨dm, 0, none⟩)) ∧ Below W.heap.size W w' ∧ W.heap.size ≤ sc ∧ sc < dm ∧
    w'.heap[sc]? = some (.cells (scC rb .nilIface (.slice none 0 0) [.int .u8 0, .int .u8 0, .int .u8 0, .int .u8 0]).toArray 96 (0, 0)) ∧
    w'.heap[dm]? = some (.cells #[.int .i8 (if wide then 1 else 0), .iface 69 (.pointer (some ⟨rb, 0, none⟩)), .pointer (some ⟨sc, 0, none⟩), .int .i64 (mxD wide), .slice none 0 0, .nilIface] 77 (0, 0)) := by
  have HN := Aside0.mk (newScanner rb W)
  cases wide <;>
  ( go_enter Tryd.func25, Tryd.ntmps25
    go_wp2_with (first
      | (go_at_call 29
         (with_reducible refine HN.out.mono ?_)
         rintro x w2 ⟨rfl, hr, hb⟩
         have HR := Aside0.mk hr
         have HB := Aside0.mk hb
         clear hr hb)
      | fail)
    go_ret
    have hb2 := below_alloc (Below.refl w2.heap.size w2)
    exact ⟨W.heap.size, w2.heap.size, rfl, HB.out.trans ((hb2 _).mono HB.out.size), Nat.le_refl _, blk_lt HR.out, ((hb2 _).block _ (blk_lt HR.out)).trans HR.out, heap_alloc_new w2 _⟩)
/-- A row of 64 bytes. -/
theorem make64 : ∃ M : Array Value, M.size = 64 ∧ ∀ W : World, (Instr.makeSlice 25 (.int .i64 64) (.int .i64 64)).run Tryd.prog W = .ok (.slice (some ⟨W.heap.size, 0, none⟩) 64 64) (W.alloc (.cells M 5)) := by
  obtain ⟨i0, hi, hz0, hz1, hz2⟩ := info_parts (show (Tryd.prog.info? 5).map (fun i => (i.zero, i.size, i.bytes)) = some (some (.int .u8 0), 1, 1) by kernel_rfl)
  refine ⟨madeCells (Value.int .u8 0).cells ((64 : Int).toNat * i0.size), by rw [size_madeCells, hz1]; rfl, fun W => ?_⟩
  have h := run_makeSlice (P := Tryd.prog) W 25 5 i0 (.int .u8 0) Tryd.underlying25 hi hz0 .i64 .i64 64 64 (by omega) (by omega) (by rw [hz1]; omega) (by rw [hz2]; omega) (by omega)
  exact h
end Go.Proofs.YtponeoodgfgejaaDoor.SidK

set_option linter.unusedVariables false
set_option linter.unusedSimpArgs false
namespace Go.Proofs.YtponeoodgfgejaaDoor.SidL
open Go.RowKit Go.Proofs.YtponeoodgfgejaaDoorW.PrintWords Go.Proofs.YtponeoodgfgejaaDoorW.PrintLast Go.Proofs.YtponeoodgfgejaaDoorW.PrintMore Go.Proofs.YtponeoodgfgejaaDoor.QAll Txt PureA PureP HandA HandB HandC HandD HandE HandF HandG HandH HandI HandJ BufA BufB SidB SidC SidD SidE SidG SidH SidI SidJ SidK
attribute [local go_sem] max2_int min2_int max_two min_two max_three min_three max_four min_four

theorem writeN (b : Nat) (r : Option Nat) (l cs : List Int) (pb n : Nat) (w : World) (h : Buf w b r (l.map (Value.int .u8))) (hn : n = cs.length) (hpb : pb ≠ b) (cur : List Value) (hrow : w.heap[pb]? = some (.cells cur.toArray 5 (0, 0))) (ht : cur.take cs.length = cs.map (Value.int .u8)) (hl : l.length + cs.length ≤ 1000000000) :
    Calls Tryd.prog 28 #[.pointer (some ⟨b, 0, none⟩), .slice (some ⟨pb, 0, none⟩) n 64] w fun e w' => e = .returned (.tuple #[.int .i64 (n : Nat), .nilIface]) ∧ Wrote w w' b r ((l ++ cs).map (Value.int .u8)) := by
  by_cases q : cs = []
  · subst q
    have hn : n = 0 := hn
    subst hn
    rw [List.append_nil]
    exact write0 b r _ ⟨pb, 0, none⟩ 64 w h (by rw [List.length_map]; omega)
  · have hp : 0 < cs.length := List.length_pos_iff.2 q
    rw [List.map_append]
    refine write b r (l.map (Value.int .u8)) (cs.map (Value.int .u8)) ⟨pb, 0, none⟩ n 64 w h (one_u8 l) (by rw [List.length_map]; exact hn.symm) (by omega) (fun k => hpb k) ?_ (one_u8 cs) (by rw [List.length_map]; omega)
    intro j v hj
    rw [← ht] at hj
    rw [addz, Lib.cell_of_heap hrow]
    rw [List.getElem?_take] at hj
    split at hj
    · simpa using hj
    · cases hj
theorem bytesB (b : Nat) (r : Option Nat) (l : List Int) (w : World) (h : Buf w b r (l.map (Value.int .u8))) (hl : l.length ≤ 100000000) :
    Calls Tryd.prog 22 #[.pointer (some ⟨b, 0, none⟩)] w fun e w' => ∃ A d, e = .returned (.slice A l.length d) ∧ l.length ≤ d ∧ Kd.C (Kd.int .u8) w' A l.length l ∧ Same w w' := by
  refine (Tryd.Buffer_Bytes _ _ _ _ h.is).mono ?_
  rintro x w4 ⟨v, rfl, hv, nd, rfl⟩
  obtain ⟨A, d, e, h1, h2⟩ := owned hv hl
  exact ⟨A, d, by rw [e], h1, h2, ⟨rfl, rfl, rfl, rfl⟩⟩
theorem bytesV (b : Nat) (r : Option Nat) (l : List Value) (w : World) (h : Buf w b r l) :
    Calls Tryd.prog 22 #[.pointer (some ⟨b, 0, none⟩)] w fun e w' => ∃ v, e = .returned v ∧ Same w w' := by
  refine (Tryd.Buffer_Bytes _ _ _ _ h.is).mono ?_
  rintro x w4 ⟨v, rfl, hv, nd, rfl⟩
  exact ⟨v, rfl, ⟨rfl, rfl, rfl, rfl⟩⟩
/-- The state of the loop: out has been read. -/
def Lp (w0 w : World) (dm gb sc rb db pb : Nat) (kd mx : Int) (A : Option Addr) (D : List Int) (c : Nat) (te T : List Int) (gk : Nat) : Prop :=
  ∃ (P : Option Addr) (pc : Nat) (pd : List Int) (ds : List (List Int)) (own : Nat → Prop) (rd : Option Nat) (out : List Int) (cur : List Value), DS w0 w dm gb sc rb kd mx A D c te ds P pc pd own ∧ Buf w db rd (out.map (Value.int .u8)) ∧ w.heap[pb]? = some (.cells cur.toArray 5 (0, 0)) ∧ cur.length = 64 ∧ ¬ own pb ∧ ¬ own db ∧ (∀ g, rd = some g → ¬ own g ∧ g ≠ pb ∧ w0.heap.size ≤ g) ∧ pb ≠ db ∧ w0.heap.size ≤ db ∧ w0.heap.size ≤ pb ∧ Pks mx ds te ∧ out ++ (pd ++ txt 1 ds) = T ∧ (enc ds).length + pd.length = gk
/-- Behind the end. -/
theorem Buf.into {w w1 : World} {db pb : Nat} {rd : Option Nat} {l cur : List Value} {own own' : Nat → Prop} (h : Buf w db rd l) (k : Into w w1 pb cur own own') (h1 : ¬ own db) (h2 : pb ≠ db) (h3 : ∀ g, rd = some g → ¬ own g ∧ g ≠ pb) : Buf w1 db rd l :=
  h.off (off_of_far k.far) (by rintro (q | q); exact h1 q; exact h2 q.symm) (fun g hg => by rintro (q | q); exact (h3 g hg).1 q; exact (h3 g hg).2 q)

set_option maxHeartbeats 16000000 in
set_option maxRecDepth 100000 in
theorem demux (wide : Bool) (ds : List (List Int)) (te : List Int) (A : Option Addr) (D : List Int) (c : Nat) (W : World) (aE aU aI : Addr) (hE : D = enc (ds ++ [3 :: te])) (hk : Pks (mxD wide) ds te) (hC : Kd.C (Kd.int .u8) W A D.length D) (hc : D.length ≤ c) (hs : Sent W aE aU aI) (hl : D.length ≤ 100000000) (hT : (txt 1 ds).length ≤ 100000000) :
    Calls Tryd.prog 15 #[.bool wide, .slice A D.length c, .int .i64 64] W fun x w' => ∃ B d v, x = .returned (.tuple #[.slice B (txt 1 ds).length d, v, .bool false]) ∧ (txt 1 ds).length ≤ d ∧ Kd.C (Kd.int .u8) w' B (txt 1 ds).length (txt 1 ds) ∧ Below W.heap.size W w' := by
  have HKD : Aside0 (∀ W, Calls Tryd.prog 19 #[.bool wide] W fun e w' => e = .returned (.int .i8 (if wide then 1 else 0)) ∧ Drawn0 W w') := ⟨fun W => impl_kindOf.calls wide _ W (by cases wide <;> rfl)⟩
  have HND := Aside0.mk (newDemuxer wide)
  obtain ⟨kd, hkd⟩ : ∃ kd, kd = (if wide then (1 : Int) else 0) := ⟨_, rfl⟩
  rw [← hkd] at HKD
  simp only [← hkd] at HND
  obtain ⟨mx, hmx⟩ : ∃ mx, mx = mxD wide := ⟨_, rfl⟩
  rw [← hmx] at HND hk
  have HNR := Aside0.mk (newReader A D.length c)
  have HS := Aside0.mk hs
  have HD : Aside0 (Dat W A D c) := ⟨⟨fun W' hb => Kd.C_below hC hb, hc⟩⟩
  have HE := Aside0.mk hE
  have HK := Aside0.mk hk
  have HL := Aside0.mk hl
  have HT := Aside0.mk hT
  obtain ⟨M, hMs, hmk⟩ := make64
  have HMS := Aside0.mk hMs
  clear hkd hmx hs hE hk hl hT hC hc hMs
  go_enter Tryd.func15, Tryd.ntmps15
  go_wp2_with (first
    | (go_at_call 19
       (with_reducible refine (HKD.out _).mono ?_)
       rintro x w1 ⟨rfl, hd⟩
       have HD1 := Aside0.mk hd
       clear hd)
    | (go_at_call 26
       (with_reducible refine (HNR.out _).mono ?_)
       rintro x w2 ⟨rfl, hr2, hb2⟩
       have HR2 := Aside0.mk hr2
       have HB2 := Aside0.mk hb2
       clear hr2 hb2)
    | (go_at_call 25
       (with_reducible refine (HND.out _ _).mono ?_)
       rintro x w3 ⟨sc, dm, rfl, hb3, hsc, hdm, hrs, hrd⟩
       have HB3 := Aside0.mk hb3
       have HSC := Aside0.mk (And.intro hsc hdm)
       have HRS := Aside0.mk hrs
       have HRD := Aside0.mk hrd
       have y1 := below_alloc (Below.refl w3.heap.size w3) (.cells #[.slice none 0 0, .int .i64 0, .int .i8 0] 50)
       have y2 := below_alloc y1 (.cells #[.slice none 0 0, .int .i64 0, .int .i8 0] 50)
       have y3 := (y2.block dm (blk_lt hrd)).trans hrd
       have k5 : ((w3.alloc (.cells #[.slice none 0 0, .int .i64 0, .int .i8 0] 50)).alloc (.cells #[.slice none 0 0, .int .i64 0, .int .i8 0] 50)).cell? ⟨dm, 5, none⟩ = some .nilIface := (Lib.cell_of_heap y3 5).trans rfl
       have k5f := Lib.frozen_of_heap y3 5
       clear hb3 hsc hdm hrs hrd y1 y2 y3)
    | fail)
  have HLP : Aside0 (Lp W ((((w3.alloc (.cells #[.slice none 0 0, .int .i64 0, .int .i8 0] 50)).alloc (.cells #[.slice none 0 0, .int .i64 0, .int .i8 0] 50)).setCell ⟨dm, 5, none⟩ (.iface 55 (.pointer (some ⟨w3.heap.size + 1, 0, none⟩)))).alloc (.cells M 5)) dm (w3.heap.size + 1) sc w1.heap.size w3.heap.size (w3.heap.size + 1 + 1) kd mx A D c te (txt 1 ds) ((enc ds).length)) := ⟨by
    obtain ⟨⟨nd, e1⟩⟩ := HD1.out
    have h10 : w1.heap = W.heap := by rw [e1]; rfl
    have b1 : Below W.heap.size W w1 := by rw [e1]; exact ⟨rfl, rfl, rfl, Nat.le_refl _, fun _ _ => rfl⟩
    have hr2 := HR2.out
    have b2 := HB2.out
    have b3 := HB3.out
    have hrs := HRS.out
    have hrd := HRD.out
    have hsd := HSC.out
    have s1 : w1.heap.size = W.heap.size := by rw [h10]
    have ya := below_alloc (Below.refl w3.heap.size w3) (.cells #[.slice none 0 0, .int .i64 0, .int .i8 0] 50)
    have ra := heap_alloc_new w3 (.cells #[.slice none 0 0, .int .i64 0, .int .i8 0] 50)
    have sa : (w3.alloc (.cells #[.slice none 0 0, .int .i64 0, .int .i8 0] 50)).heap.size = w3.heap.size + 1 := by show (w3.heap.push _).size = _; simp
    generalize w3.alloc (.cells #[.slice none 0 0, .int .i64 0, .int .i8 0] 50) = wa at *
    have yb := below_alloc (Below.refl wa.heap.size wa) (.cells #[.slice none 0 0, .int .i64 0, .int .i8 0] 50)
    have rb := heap_alloc_new wa (.cells #[.slice none 0 0, .int .i64 0, .int .i8 0] 50)
    have sb : (wa.alloc (.cells #[.slice none 0 0, .int .i64 0, .int .i8 0] 50)).heap.size = wa.heap.size + 1 := by show (wa.heap.push _).size = _; simp
    generalize wa.alloc (.cells #[.slice none 0 0, .int .i64 0, .int .i8 0] 50) = wb at *
    have hdm3 := blk_lt hrd
    have rdb : wb.heap[dm]? = _ := (yb.block dm (by omega)).trans ((ya.block dm hdm3).trans hrd)
    have rdc := Lib.heap_setCell_same (i := 5) rdb (.iface 55 (.pointer (some ⟨w3.heap.size + 1, 0, none⟩)))
    have yc : ∀ k, k ≠ dm → (wb.setCell ⟨dm, 5, none⟩ (.iface 55 (.pointer (some ⟨w3.heap.size + 1, 0, none⟩)))).heap[k]? = wb.heap[k]? := fun k hk => Below.heap_setCell wb ⟨dm, 5, none⟩ _ k hk
    have sc' : (wb.setCell ⟨dm, 5, none⟩ (.iface 55 (.pointer (some ⟨w3.heap.size + 1, 0, none⟩)))).heap.size = wb.heap.size := by simp [World.setCell]
    have hbW : Below W.heap.size W (wb.setCell ⟨dm, 5, none⟩ (.iface 55 (.pointer (some ⟨w3.heap.size + 1, 0, none⟩)))) := by
      have h := b1.trans ((b2.mono (by omega)).trans ((b3.mono (by have := b2.size; omega)).trans ((ya.mono (by have := b2.size; have := b3.size; omega)).trans (yb.mono (by have := b2.size; have := b3.size; omega)))))
      exact h.setCell (p := ⟨dm, 5, none⟩) (by have := b2.size; show W.heap.size ≤ dm; omega) _
    generalize wb.setCell ⟨dm, 5, none⟩ (.iface 55 (.pointer (some ⟨w3.heap.size + 1, 0, none⟩))) = wc at *
    have yd := below_alloc (Below.refl wc.heap.size wc) (.cells M 5)
    have rd := heap_alloc_new wc (.cells M 5)
    generalize wc.alloc (.cells M 5) = wd at *
    have z2 := b2.size
    have z3 := b3.size
    have q2 := blk_lt hr2
    have qs := blk_lt hrs
    have old : ∀ k, k < w3.heap.size → k ≠ dm → wd.heap[k]? = w3.heap[k]? := fun k hk hkd => by
      rw [yd.block k (by omega), yc k hkd, yb.block k (by omega), ya.block k hk]
    refine ⟨none, 0, [], ds, _, none, [], M.toList, ⟨0, none, 0, 0, none, [], ⟨⟨⟨_, hbW.trans (yd.mono (by omega)), (old sc qs (by omega)).trans hrs, ⟨-1, (old w1.heap.size (by omega) (by omega)).trans ((b3.block _ q2).trans hr2)⟩, by omega, by omega, by omega, rfl⟩, ⟨fun _ => rfl, fun ad e => (by cases e), Nat.le_refl _⟩⟩, ?_, ?_, C_zero _ none [], Nat.le_refl _, fun ad e => (by cases e), ?_, by omega, by simp, ?_, by simp, by omega, by omega, by simp, fun _ => ⟨rfl, rfl⟩⟩, ⟨?_, ?_, Nat.zero_le _⟩, rfl, ?_⟩, ?_, ?_, by rw [Array.length_toList]; exact HMS.out, ?_, ?_, by simp, by omega, by omega, by omega, HK.out, rfl, by simp⟩
    · rw [yd.block dm (by omega), rdc]; rfl
    · refine ⟨rfl, 0, ?_⟩
      rw [yd.block _ (by omega), yc _ (by omega), ← sa]
      exact rb
    · rintro (q | q | ⟨ad, e, _⟩)
      · omega
      · omega
      · cases e
    · rintro (q | q | ⟨ad, e, _⟩)
      · omega
      · omega
      · cases e
    · rw [List.drop_zero, Nat.sub_zero, HE.out, List.take_length]
    · rw [Nat.sub_zero, HE.out]
    · have := HL.out
      rw [HE.out, enc_append, List.length_append] at this
      simp only [List.length_nil]
      omega
    · refine ⟨rfl, 0, ?_⟩
      rw [yd.block _ (by omega), yc _ (by omega), yb.block _ (by omega)]
      exact ra
    · rw [Array.toArray_toList, show w3.heap.size + 1 + 1 = wc.heap.size by omega]
      exact rd
    · rintro ((q | q | ⟨ad, e, _⟩) | q | q | q)
      · omega
      · omega
      · cases e
      · omega
      · omega
      · cases q
    · rintro ((q | q | ⟨ad, e, _⟩) | q | q | q)
      · omega
      · omega
      · cases e
      · omega
      · omega
      · cases q⟩
  generalize w3.heap.size + 1 + 1 = pb at HLP ⊢
  generalize w3.heap.size + 1 = gb at HLP ⊢
  generalize w3.heap.size = db at HLP ⊢
  generalize w1.heap.size = rb at HLP ⊢
  clear HR2 HB2 HB3 HSC HRS HRD k5 k5f HD1
  go_loopg [] ((enc ds).length) (fun gk w' => Aside0 (Lp W w' dm gb sc rb db pb kd mx A D c te (txt 1 ds) gk))
  case atStart => exact HLP
  case round =>
    have HR := hrel
    clear hrel
    obtain ⟨P1, pc1, pd1, ds1, own1, rd1, out1, cur1, hds, hbuf, hrow, hcur, hnp, hnd, hrd, hpd, hd0, hp0, hpk, htx, hgk⟩ := HR.out
    have HRE := Aside0.mk (read hds HS.out HD.out hpk pb cur1 hrow hnp hp0 hcur)
    have HBF := Aside0.mk hbuf
    have HFR := Aside0.mk (And.intro hnd (And.intro hrd (And.intro hpd (And.intro hd0 hp0))))
    have HTX := Aside0.mk htx
    have HGK := Aside0.mk hgk
    have HDS := Aside0.mk hds
    have hlo : out1.length ≤ 100000000 := by have := HT.out; rw [← htx, List.length_append] at this; omega
    have HLO := Aside0.mk hlo
    have HRP := Aside0.mk (blk_lt hrow)
    clear hds hbuf hrow hcur hnp hnd hrd hpd hd0 hp0 hpk htx hgk HR hlo
    go_wp2_with (first | (go_at_call 27; (with_reducible refine HRE.out.mono ?_)) | fail)
    rintro e w5 (⟨P2, pc2, bs, pd2, ds2, own2, cur2, rfl, hb64, hc64, htk, hds2, hin2, hpk2, htx2, hms2⟩ | ⟨bs, g, own2, cur2, rfl, hbl, hc64, htk, hg, hde, hin2, htx2, hgr⟩)
    · have hcut := toA (some ⟨pb, 0, none⟩) 64 64 64 (Nat.le_refl _)
      have hcut : ∀ W : World, (Instr.slice 25 (.slice (some ⟨pb, 0, none⟩) 64 64) none (some (.int .i64 64)) none).run Tryd.prog W = .ok (.slice (some ⟨pb, 0, none⟩) 64 64) W := hcut
      have HWN := Aside0.mk (writeN db rd1 out1 bs pb 64 w5 (Buf.into HBF.out hin2 HFR.out.1 HFR.out.2.2.1 (fun g hg => ⟨(HFR.out.2.1 g hg).1, (HFR.out.2.1 g hg).2.1⟩)) hb64.symm HFR.out.2.2.1 cur2 hin2.row (by rw [hb64]; exact htk) (by have := HLO.out; omega))
      have H2 := Aside0.mk (And.intro hds2 (And.intro hin2 (And.intro hpk2 (And.intro htx2 (And.intro hms2 hc64)))))
      have HB64 := Aside0.mk hb64
      clear hds2 hin2 hpk2 htx2 hms2 hc64 htk hb64
      go_wp2_with (first
        | (go_at_call 28
           (with_reducible refine HWN.out.mono ?_)
           rintro x w6 ⟨rfl, hwr⟩
           have HWR := Aside0.mk hwr
           clear hwr)
        | fail)
      go_roundg ((enc ds2).length + pd2.length)
      case measure => have := H2.out.2.2.2.2.1; have := HGK.out; omega
      case rel =>
        obtain ⟨hds2, hin2, hpk2, htx2, hms2, hc64⟩ := H2.out
        obtain ⟨hnd, hrd, hpd, hd0, hp0⟩ := HFR.out
        obtain ⟨rd2, hb6, ho6, hr6⟩ := HWR.out
        have hown2 : ∀ k, own2 k → own1 k ∨ wr.heap.size ≤ k := hin2.new
        have hdl := HBF.out.lt
        have hrl : ∀ g, rd1 = some g → g < wr.heap.size := fun g hg => by
          have h := HBF.out
          rw [hg] at h
          exact h.rlt.1
        have hnd2 : ¬ own2 db := fun k => by
          rcases hown2 _ k with q | q
          · exact hnd q
          · omega
        have hnr2 : ∀ g, rd1 = some g → ¬ own2 g := fun g hg k => by
          rcases hown2 _ k with q | q
          · exact (hrd g hg).1 q
          · have := hrl g hg; omega
        exact ⟨P2, pc2, pd2, ds2, own2, rd2, out1 ++ bs, cur2, DS.far hds2 (far_of_off ho6) (fun k hk q => by
          rcases q with q | q
          · exact hnd2 (q ▸ hk)
          · exact hnr2 k q hk) (fun k q => by
          rcases q with q | q
          · rw [q]; exact hd0
          · exact (hrd k q).2.2), hb6, (ho6.blk pb (blk_lt hin2.row) (by
          rintro (q | q)
          · exact hpd q
          · exact (hrd pb q).2.1 rfl)).trans hin2.row, hc64, hin2.no, hnd2, (fun g hg => by
          rcases hr6 with rfl | ⟨N, rfl, hN⟩
          · exact ⟨hnr2 g hg, (hrd g hg).2.1, (hrd g hg).2.2⟩
          · obtain rfl := Option.some.inj hg
            refine ⟨fun k => ?_, ?_, ?_⟩
            · have := (DS.ownlt hds2 _ k).1; omega
            · have := blk_lt hin2.row; omega
            · have := (DS.bel hds2).size; omega), hpd, hd0, hp0, hpk2, by rw [List.append_assoc, htx2]; exact HTX.out, rfl⟩
    · have hcut := toA (some ⟨pb, 0, none⟩) 64 64 bs.length (by omega)
      have HWN := Aside0.mk (writeN db rd1 out1 bs pb bs.length w5 (Buf.into HBF.out hin2 HFR.out.1 HFR.out.2.2.1 (fun g hg => ⟨(HFR.out.2.1 g hg).1, (HFR.out.2.1 g hg).2.1⟩)) rfl HFR.out.2.2.1 cur2 hin2.row htk (by have := HLO.out; omega))
      have H2 := Aside0.mk (And.intro hde (And.intro hin2 (And.intro htx2 (And.intro hg hgr))))
      clear hde hin2 htx2 hc64 htk hg hgr
      go_wp2_with (first
        | (go_at_call 28
           (with_reducible refine HWN.out.mono ?_)
           rintro x w6 ⟨rfl, hwr⟩
           have HWR := Aside0.mk hwr
           clear hwr)
        | fail)
      have HFIN : Aside0 (∃ rd2, Buf w6 db rd2 ((txt 1 ds).map (Value.int .u8)) ∧ DE W w6 dm gb sc rb kd mx A D c own2 ∧ Below W.heap.size W w6 ∧ ∃ cs ty, w6.heap[g]? = some (.cells cs ty (0, 0))) := ⟨by
        obtain ⟨hde, hin2, htx2, hg, cs, ty, hgr⟩ := H2.out
        obtain ⟨hnd, hrd, hpd, hd0, hp0⟩ := HFR.out
        obtain ⟨rd2, hb6, ho6, hr6⟩ := HWR.out
        have hown2 : ∀ k, own2 k → own1 k ∨ wr.heap.size ≤ k := hin2.new
        have hdl := HBF.out.lt
        have hrl : ∀ g, rd1 = some g → g < wr.heap.size := fun g hg => by
          have h := HBF.out
          rw [hg] at h
          exact h.rlt.1
        have hbel5 : Below W.heap.size W w5 := (DS.bel HDS.out).trans (hin2.far.below (DS.bel HDS.out).size (fun k hk => by
          rcases hk with hk | rfl
          · exact (DS.ownlt HDS.out k hk).2
          · exact hp0))
        have hS : ∀ k, (k = db ∨ rd1 = some k) → W.heap.size ≤ k := fun k q => by
          rcases q with q | q
          · rw [q]; exact hd0
          · exact (hrd k q).2.2
        refine ⟨rd2, by have e : out1 ++ bs = txt 1 ds := by rw [htx2]; exact HTX.out
                        rw [← e]; exact hb6, DE.far hde (far_of_off ho6) (fun k hk q => ?_) hS, hbel5.trans ((far_of_off ho6).below hbel5.size hS), cs, ty, (ho6.blk g (blk_lt hgr) ?_).trans hgr⟩
        · rcases hown2 k hk with q2 | q2
          · rcases q with rfl | q
            · exact hnd q2
            · exact (hrd k q).1 q2
          · rcases q with rfl | q
            · omega
            · have := hrl k q; omega
        · rintro (q | q)
          · omega
          · have := hrl g q; omega⟩
      obtain ⟨rd2, hb6, hde6, hbel6, cs, ty, hg6⟩ := HFIN.out
      have hs6 := HS.out.below hbel6
      obtain ⟨ce, te', he6⟩ := hs6.be
      have HG6 : Aside0 (W.heap.size ≤ g) := ⟨Nat.le_trans (DS.bel HDS.out).size H2.out.2.2.2.1⟩
      have HAE : Aside0 (aE.block < W.heap.size) := ⟨by obtain ⟨_, _, h⟩ := HS.out.be; exact blk_lt h⟩
      have HEQ : Aside0 (∀ W1, Same w6 W1 → (binOp .eql 58 (.iface 126 (.pointer (some ⟨g, 0, none⟩))) (.iface 126 (.pointer (some aE)))).run Tryd.prog W1 = .ok (.bool false) W1) := ⟨fun W1 hW => eqOther W1 (fun k => by have h1 := HG6.out; have h2 := HAE.out; rw [← k] at h2; have h2 : g < W.heap.size := h2; omega) (hW.blk hg6) (hW.blk he6)⟩
      have HCE : Aside0 (∀ W1, Same w6 W1 → W1.cell? ⟨0, 0, none⟩ = some (.iface 126 (.pointer (some aE)))) := ⟨fun W1 hW => hW.cell hs6.e⟩
      have HY1 : Aside0 (∀ W1, Same w6 W1 → Calls Tryd.prog 22 #[.pointer (some ⟨db, 0, none⟩)] W1 fun e w' => ∃ A d, e = .returned (.slice A (txt 1 ds).length d) ∧ (txt 1 ds).length ≤ d ∧ Kd.C (Kd.int .u8) w' A (txt 1 ds).length (txt 1 ds) ∧ Same W1 w') := ⟨fun W1 hW => bytesB db rd2 _ W1 (hb6.off (off_of_far (Far.of_same hW (fun _ => False))) (fun h => h) (fun _ _ h => h)) HT.out⟩
      have HY2 : Aside0 (∀ W1, Same w6 W1 → Calls Tryd.prog 22 #[.pointer (some ⟨gb, 0, none⟩)] W1 fun e w' => ∃ v, e = .returned v ∧ Same W1 w') := ⟨fun W1 hW => by
        obtain ⟨pos, X, n, cb, rg, pl, hd, _⟩ := hde6
        exact bytesV gb rg _ W1 (hd.buf.off (off_of_far (Far.of_same hW (fun _ => False))) (fun h => h) (fun _ _ h => h))⟩
      have m0 := HCE.out _ (Same.drew w6)
      have m1 := HEQ.out _ (Same.drew w6)
      have HBEL := Aside0.mk hbel6
      clear hb6 hde6 hbel6 hg6 hs6 he6 H2 HFIN HWR
      go_region_law (first
        | (go_simp
           go_at_call 22
           (with_reducible refine (HY1.out _ ?s1).mono ?_)
           (case s1 => first | exact Same.drew _ | exact HSb.out)
           rintro x wa ⟨A1, d1, rfl, hd1, hC1, hs1⟩
           have HSa : Aside0 (Same w6 wa) := ⟨by first | exact (Same.drew _).trans hs1 | exact HSb.out.trans hs1⟩
           have HC1 := Aside0.mk hC1
           have HD1 := Aside0.mk hd1
           have m0a := HCE.out _ HSa.out
           have m1a := HEQ.out _ HSa.out
           clear hs1 hC1 hd1)
        | (go_simp
           go_at_call 22
           (with_reducible refine (HY2.out _ ?s1).mono ?_)
           (case s1 => first | exact Same.drew _ | exact HSa.out)
           rintro x wb ⟨v2, rfl, hs1⟩
           have HSb : Aside0 (Same w6 wb) := ⟨by first | exact (Same.drew _).trans hs1 | exact HSa.out.trans hs1⟩
           have HT1 := Aside0.mk hs1
           have m0b := HCE.out _ HSb.out
           have m1b := HEQ.out _ HSb.out
           clear hs1)
        | fail)
      all_goals (
        go_wp2
        go_ret3
        first
          | exact ⟨A1, d1, v2, rfl, HD1.out, HC1.out, HBEL.out.trans (HSa.out.below _)⟩
          | exact ⟨A1, d1, v2, rfl, HD1.out, Kd.C_below HC1.out (HT1.out.below _), HBEL.out.trans (HSb.out.below _)⟩)
end Go.Proofs.YtponeoodgfgejaaDoor.SidL
