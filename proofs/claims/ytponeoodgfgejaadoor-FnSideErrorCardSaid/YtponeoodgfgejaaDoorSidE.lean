/- sideband.NewMuxer, impl.Mux. laws.sideChunks; spec.Chunks of lines as they are written. -/
import Derived.Test.YtponeoodgfgejaaDoorSidC
import Derived.BigQuiet
import Derived.Test.YtponeoodgfgejaaDoorHandL
set_option linter.unusedVariables false
set_option linter.unusedSimpArgs false
namespace Go.Proofs.YtponeoodgfgejaaDoor.SidE
open Go.RowKit Go.Proofs.YtponeoodgfgejaaDoorW.PrintWords Go.Proofs.YtponeoodgfgejaaDoor.QAll PureA PureP HandF PbkA BufA BufB SidB SidC SidD

set_option maxHeartbeats 8000000 in
set_option maxRecDepth 100000 in
theorem newEncoder (b : Nat) (W : World) : Calls Tryd.prog 33 #[.iface 55 (.pointer (some ⟨b, 0, none⟩))] W fun x w' => x = .returned (.pointer (some ⟨W.heap.size, 0, none⟩)) ∧ w' = W.alloc (.cells #[.iface 55 (.pointer (some ⟨b, 0, none⟩))] 104) := by
  go_enter Tryd.func33, Tryd.ntmps33
  go_wp2
  go_ret
  exact ⟨rfl, rfl⟩
/-- The greatest number of bytes of a packet for a kind of side band. -/
def mxOf (wide : Bool) : Nat := if wide then 65519 else 999
set_option maxHeartbeats 8000000 in
set_option maxRecDepth 100000 in
theorem newMuxer (wide : Bool) (b : Nat) (W : World) : Calls Tryd.prog 18 #[.int .i8 (if wide then 1 else 0), .iface 55 (.pointer (some ⟨b, 0, none⟩))] W fun x w' => x = .returned (.pointer (some ⟨W.heap.size + 1, 0, none⟩)) ∧ w' = (W.alloc (.cells #[.iface 55 (.pointer (some ⟨b, 0, none⟩))] 104)).alloc (.cells #[.int .i64 (mxOf wide : Nat), .pointer (some ⟨W.heap.size, 0, none⟩)] 84) := by
  have HE := Aside0.mk (newEncoder b W)
  have hs : (W.alloc (.cells #[.iface 55 (.pointer (some ⟨b, 0, none⟩))] 104)).heap.size = W.heap.size + 1 := by show (W.heap.push _).size = _; simp
  have HS := Aside0.mk hs
  clear hs
  cases wide <;>
  ( go_enter Tryd.func18, Tryd.ntmps18
    go_wp2_with (first
      | (go_at_call 33
         (with_reducible refine HE.out.mono ?_)
         rintro x w2 ⟨rfl, rfl⟩)
      | fail)
    go_ret
    exact ⟨by first | rfl | (rw [HS.out]), rfl⟩)

/-- The bytes of a channel within chunks. -/
def chan (c : Int) (l : List S56) : List Int := (l.map (fun x => if x.f0 = c then x.f1 else [])).flatten
theorem chan_snoc (c : Int) (l : List S56) (i : Nat) (hi : i < l.length) : chan c (l.take (i + 1)) = chan c (l.take i) ++ (if l[i].f0 = c then l[i].f1 else []) := by
  unfold chan
  rw [List.take_succ_eq_append_getElem hi, List.map_append, List.flatten_append]
  simp only [List.map_cons, List.map_nil, List.flatten_cons, List.flatten_nil, List.append_nil]
/-- Chunks as they may be. -/
structure Fine (l : List S56) : Prop where
  n : l.length ≤ 60
  at_ : ∀ x ∈ l, (x.f0 = 1 ∨ x.f0 = 2) ∧ x.f1 ≠ [] ∧ x.f1.length ≤ 60000
/-- Payloads with the bytes of the first i chunks. -/
structure Got (mx : Nat) (l : List S56) (i : Nat) (qs : List (List Int)) : Prop where
  pc : ∀ q ∈ qs, Pc mx q
  tx : ∀ c, txt c qs = chan c (l.take i)
  n : qs.length ≤ 60000 * i
  e : (enc qs).length ≤ 360000 * i
theorem Got.nil (mx : Nat) (l : List S56) : Got mx l 0 [] := ⟨by simp, fun c => rfl, by simp, by simp [enc]⟩
theorem Got.snoc {mx i : Nat} {l : List S56} {qs ps : List (List Int)} (h : Got mx l i qs) (hi : i < l.length) (hp : l[i].f1.length ≤ 60000) (k : Cut mx l[i].f0 l[i].f1 l[i].f1.length ps) : Got mx l (i + 1) (qs ++ ps) := by
  refine ⟨?_, fun c => ?_, ?_, ?_⟩
  · intro q hq
    rcases List.mem_append.1 hq with hq | hq
    · exact h.pc q hq
    · exact k.pc q hq
  · rw [txt_append, h.tx c, k.tx c, chan_snoc c l i hi, List.take_of_length_le (Nat.le_refl _)]
  · rw [List.length_append]; have := h.n; have := k.n; omega
  · rw [enc_append, List.length_append]; have := h.e; have := k.e; omega

theorem owned {W : World} {base : Nat} {v : Value} {l : List Int} (h : W.ownsRow base 5 1 v (l.map (Value.int .u8)).length (l.map (Value.int .u8))) (hm : l.length ≤ 100000000) :
    ∃ A c, v = .slice A l.length c ∧ l.length ≤ c ∧ Kd.C (Kd.int .u8) W A l.length l := by
  rw [List.length_map] at h
  rcases h.2 with ⟨k1, k2⟩ | ⟨g, cap, cur, k1, k2, k3, k4, k5, k6, k7⟩
  · have : l = [] := List.length_eq_zero_iff.1 k2
    subst this
    exact ⟨none, 0, k1, Nat.le_refl _, Kd.C_nil _ _⟩
  · refine ⟨_, cap, k1, by omega, C_blk (cur := cur.toList) (xs := l) (by simpa using k3) (by omega) (fun j x hj => ?_)⟩
    have : (cur.toList.take (l.length * 1))[j]? = some (.int .u8 x) := by
      first | rw [k7, List.getElem?_map, hj]; rfl | rw [k6, List.getElem?_map, hj]; rfl | rw [k5, List.getElem?_map, hj]; rfl
    rw [List.getElem?_take] at this
    split at this
    · rw [Nat.zero_add]; exact this
    · cases this

set_option maxHeartbeats 8000000 in
set_option maxRecDepth 100000 in
theorem mux (wide : Bool) (l : List S56) (A : Option Addr) (c : Nat) (W : World) (hf : Fine l) (hC : Kd.C k56 W A l.length l) :
    Calls Tryd.prog 8 #[.bool wide, .slice A l.length c] W fun x w' => ∃ qs B d, Got (mxOf wide) l l.length qs ∧ x = .returned (.tuple #[.slice B (enc qs).length d, .bool true]) ∧ (enc qs).length ≤ d ∧ Kd.C (Kd.int .u8) w' B (enc qs).length (enc qs) ∧ Below W.heap.size W w' := by
  have HF := Aside0.mk hf
  have HR := Aside0.mk hC
  have HKD : Aside0 (∀ W, Calls Tryd.prog 19 #[.bool wide] W fun e w' => e = .returned (.int .i8 (if wide then 1 else 0)) ∧ Drawn0 W w') := ⟨fun W => impl_kindOf.calls wide _ W (by cases wide <;> rfl)⟩
  have HNM := Aside0.mk (newMuxer wide)
  have hmx0 : 1 ≤ mxOf wide := by cases wide <;> decide
  have hmx1 : mxOf wide ≤ 65519 := by cases wide <;> decide
  obtain ⟨kd, hkd⟩ : ∃ kd, kd = (if wide then (1 : Int) else 0) := ⟨_, rfl⟩
  rw [← hkd] at HKD
  simp only [← hkd] at HNM
  obtain ⟨mx, hmx⟩ : ∃ mx, mx = mxOf wide := ⟨_, rfl⟩
  rw [← hmx] at HNM hmx0 hmx1 ⊢
  clear hkd hmx
  have HM0 := Aside0.mk hmx0
  have HM1 := Aside0.mk hmx1
  clear hf hC hmx0 hmx1
  go_enter Tryd.func8, Tryd.ntmps8
  go_wp2_with (first
    | (go_at_call 19
       (with_reducible refine (HKD.out _).mono ?_)
       rintro x w2 ⟨rfl, hd⟩
       have HD := Aside0.mk hd
       clear hd)
    | (go_at_call 18
       (with_reducible refine (HNM.out _ _).mono ?_)
       rintro x w3 ⟨rfl, hd⟩
       have HD3 := Aside0.mk hd
       clear hd)
    | fail)
  have HMS : Aside0 (Ms W w3 W.heap.size none w2.heap.size (w2.heap.size + 1) mx []) := ⟨by
    have hd := HD.out
    have e3 := HD3.out
    obtain ⟨⟨nd, rfl⟩⟩ := hd
    have s1 : (W.alloc (.cells #[.slice none 0 0, .int .i64 0, .int .i8 0] 50)).heap.size = W.heap.size + 1 := by show (W.heap.push _).size = _; simp
    have r1 := heap_alloc_new W (.cells #[.slice none 0 0, .int .i64 0, .int .i8 0] 50)
    generalize hw1 : W.alloc (.cells #[.slice none 0 0, .int .i64 0, .int .i8 0] 50) = w1 at *
    have hb1 : Below W.heap.size W w1 := by rw [← hw1]; exact below_alloc (Below.refl _ _) _
    have hs2 : (w1.drewN nd).heap.size = w1.heap.size := rfl
    generalize hw2 : w1.drewN nd = w2 at *
    have hh2 : w2.heap = w1.heap := by rw [← hw2]; rfl
    have hb2 : Below w1.heap.size w1 w2 := by rw [← hw2]; exact ⟨rfl, rfl, rfl, Nat.le_refl _, fun _ _ => rfl⟩
    have s2 : w2.heap.size = W.heap.size + 1 := by rw [hs2, s1]
    have r2 := heap_alloc_new w2 (.cells #[.iface 55 (.pointer (some ⟨W.heap.size, 0, none⟩))] 104)
    have b2 := below_alloc (Below.refl w2.heap.size w2) (.cells #[.iface 55 (.pointer (some ⟨W.heap.size, 0, none⟩))] 104)
    generalize hw4 : w2.alloc (.cells #[.iface 55 (.pointer (some ⟨W.heap.size, 0, none⟩))] 104) = w4 at *
    have s4 : w4.heap.size = w2.heap.size + 1 := by rw [← hw4]; show (w2.heap.push _).size = _; simp
    have r3 := heap_alloc_new w4 (.cells #[.int .i64 (mx : Nat), .pointer (some ⟨w2.heap.size, 0, none⟩)] 84)
    have b4 := below_alloc (Below.refl w4.heap.size w4) (.cells #[.int .i64 (mx : Nat), .pointer (some ⟨w2.heap.size, 0, none⟩)] 84)
    rw [← e3] at r3 b4
    refine ⟨⟨⟨⟨rfl, 0, ?_⟩, ?_, by omega, by simp⟩, by rw [← s4]; exact r3, by omega, by simp⟩, ?_, Nat.le_refl _, by simp⟩
    · rw [b4.block _ (by omega), b2.block _ (by omega), hh2]; exact r1
    · rw [b4.block _ (by omega)]; exact r2
    · exact hb1.trans ((hb2.mono hb1.size).trans ((b2.mono (by omega)).trans (b4.mono (by omega))))⟩
  go_loopg [18] l.length (fun gk v18 w' => ∃ (i : Nat) (qs : List (List Int)) (r' : Option Nat), v18 = .int .i64 (i : Int) ∧ gk + i = l.length ∧ Aside0 (Got mx l i qs) ∧ Aside0 (Ms W w' W.heap.size r' w2.heap.size (w2.heap.size + 1) mx (enc qs)))
  case atStart => exact ⟨0, [], none, rfl, rfl, ⟨Got.nil _ _⟩, HMS⟩
  case round =>
    obtain ⟨i, qs, r', rfl, hi, HGO, HMI⟩ := hrel
    have HLE : Aside0 ((enc qs).length ≤ 21600000) := ⟨by have := HGO.out.e; have := HF.out.n; omega⟩
    by_cases q : i < l.length
    · have d0 : decide ((i : Int) < (l.length : Int)) = true := decide_eq_true (by omega)
      have hp0 : 0 ≤ (i : Int) := by omega
      have hq0 : (i : Int) < (l.length : Int) := by omega
      obtain ⟨ad, A1, c1, rfl, hx0, hx1, hl1, hi1⟩ := at_T56 HR.out (i : Int) hp0 hq0
      rw [Int.toNat_natCast] at hx0 hx1
      have hx0 := (HMI.out.bel.cell (World.block_lt_of_cell? W _ hx0)).trans hx0
      have hx1 := (HMI.out.bel.cell (World.block_lt_of_cell? W _ hx1)).trans hx1
      have hrd : rd_T56 l (i : Int) = l[i] := by unfold rd_T56; rw [Int.toNat_natCast, List.getD_eq_getElem?_getD, List.getElem?_eq_getElem q]; rfl
      rw [hrd] at hx0 hx1 hl1 hi1
      obtain ⟨hch, hne, hlen⟩ := HF.out.at_ _ (List.getElem_mem q)
      have HSN : Aside0 (∀ ps, Cut mx l[i].f0 l[i].f1 l[i].f1.length ps → Got mx l (i + 1) (qs ++ ps)) := ⟨fun ps k => HGO.out.snoc q hlen k⟩
      have HN : Aside0 (l.length ≤ 60) := ⟨HF.out.n⟩
      have hw : wrap64 ((i : Int) + 1) = ((i + 1 : Nat) : Int) := by have := HN.out; unfold wrap64; omega
      have HW := Aside0.mk hw
      have HCP := Aside0.mk hi1
      have HLP := Aside0.mk hl1
      have HPL := Aside0.mk hlen
      generalize l[i].f0 = ch at *
      generalize l[i].f1 = p at *
      clear hrd hne hl1 hi1 hw hlen
      have hwl : wr.heap.size ≤ wr.heap.size := Nat.le_refl _
      clear hwl
      have HWC : Aside0 (∀ (W1 : World), Below wr.heap.size wr W1 → (ch = 1 → Calls Tryd.prog 20 #[.pointer (some ⟨w2.heap.size + 1, 0, none⟩), .slice A1 p.length c1] W1 fun x w' => x = .returned (.tuple #[.int .i64 (p.length : Nat), .nilIface]) ∧ ∃ ps r2, Cut mx ch p p.length ps ∧ Ms W w' W.heap.size r2 w2.heap.size (w2.heap.size + 1) mx (enc qs ++ enc ps) ∧ Wr W1 w' W.heap.size r' w2.heap.size (enc qs ++ enc ps) r2) ∧
          (ch = 2 → Calls Tryd.prog 21 #[.pointer (some ⟨w2.heap.size + 1, 0, none⟩), .int .u8 2, .slice A1 p.length c1] W1 fun x w' => x = .returned (.tuple #[.int .i64 (p.length : Nat), .nilIface]) ∧ ∃ ps r2, Cut mx ch p p.length ps ∧ Ms W w' W.heap.size r2 w2.heap.size (w2.heap.size + 1) mx (enc qs ++ enc ps) ∧ Wr W1 w' W.heap.size r' w2.heap.size (enc qs ++ enc ps) r2)) := ⟨fun W1 hb => ⟨fun e1 => by
            subst e1
            exact writeData (HMI.out.below hb) (by have := HLE.out; omega) p A1 p.length c1 rfl HM0.out HPL.out HM1.out HLP.out HCP.out, fun e2 => by
            subst e2
            exact writeChannel (HMI.out.below hb) (by have := HLE.out; omega) 2 (.inr rfl) p A1 p.length c1 rfl HM0.out HPL.out HM1.out HLP.out HCP.out⟩⟩
      have HLT : Aside0 (W.heap.size < wr.heap.size ∧ r' ≠ some wr.heap.size) := ⟨HMI.out.mu.es.lt, fun k => by have := HMI.out.mu.es.rlt k; omega⟩
      have hple : (p.length : Int) ≤ 60000 := by have := HPL.out; omega
      have hpb : ((p.length : Int) != (p.length : Int)) = false := by simp
      rcases hch with rfl | rfl
      · go_wp2_with (first
          | ((with_reducible refine gate_dst (N := 9) rfl ?_)
             (try (refine gate_guard (by rfl) ?_; dsimp only))
             refine box_event ?hg (N := 9) ?hd (cs := #[.int .i64 0, .slice none 0 0]) (t := 56) ?hr ?_
             (case hd => rfl)
             (case hg => rfl)
             (case hr => first | (go_simp; done) | (go_simp; rfl))
             intro gb hgb w5 hbox hb
             have HBX := Aside0.mk hbox
             have HB5 := Aside0.mk hb
             have HGB := Aside0.mk hgb
             have hcz0 : w5.cell? ⟨gb, 0, none⟩ = some (.int .i64 0) := (blk_cell HBX.out 0).trans rfl
             have hcz1 : w5.cell? ⟨gb, 1, none⟩ = some (.slice none 0 0) := (blk_cell HBX.out 1).trans rfl
             have hfz0 := blk_frozen HBX.out 0
             have hfz1 := blk_frozen HBX.out 1
             clear hbox hb hgb)
          | fail)
        refine ((HWC.out _ (below_set (below_set HB5.out (by rw [HGB.out]; exact Nat.le_refl _)) (by rw [HGB.out]; exact Nat.le_refl _))).1 (by first | rfl | trivial)).mono ?_
        rintro x w6 ⟨rfl, ps, r2, h1, h2, h3⟩
        have H1 := Aside0.mk h1
        have H2 := Aside0.mk h2
        have hcz1 : w6.cell? ⟨gb, 1, none⟩ = some (.slice A1 p.length c1) := Off.cell h3.off ((Lib.cell_of_heap (Lib.heap_setCell_same (Lib.heap_setCell_same HBX.out _) _) 1).trans rfl) (fun k => k.elim (fun k => by have k : gb = W.heap.size := k; have := HLT.out.1; have := HGB.out; omega) (fun k => HLT.out.2 (by rw [← HGB.out]; exact k)))
        clear h1 h2 h3
        go_wp2
        go_roundg (gk - 1)
        case measure => omega
        case rel => exact ⟨i + 1, _, r2, by first | rfl | (rw [HW.out]) | simp, by omega, ⟨HSN.out _ H1.out⟩, ⟨by rw [enc_append]; exact H2.out⟩⟩
      · go_wp2_with (first
          | ((with_reducible refine gate_dst (N := 9) rfl ?_)
             (try (refine gate_guard (by rfl) ?_; dsimp only))
             refine box_event ?hg (N := 9) ?hd (cs := #[.int .i64 0, .slice none 0 0]) (t := 56) ?hr ?_
             (case hd => rfl)
             (case hg => rfl)
             (case hr => first | (go_simp; done) | (go_simp; rfl))
             intro gb hgb w5 hbox hb
             have HBX := Aside0.mk hbox
             have HB5 := Aside0.mk hb
             have HGB := Aside0.mk hgb
             have hcz0 : w5.cell? ⟨gb, 0, none⟩ = some (.int .i64 0) := (blk_cell HBX.out 0).trans rfl
             have hcz1 : w5.cell? ⟨gb, 1, none⟩ = some (.slice none 0 0) := (blk_cell HBX.out 1).trans rfl
             have hfz0 := blk_frozen HBX.out 0
             have hfz1 := blk_frozen HBX.out 1
             clear hbox hb hgb)
          | fail)
        refine ((HWC.out _ (below_set (below_set HB5.out (by rw [HGB.out]; exact Nat.le_refl _)) (by rw [HGB.out]; exact Nat.le_refl _))).2 (by first | rfl | trivial)).mono ?_
        rintro x w6 ⟨rfl, ps, r2, h1, h2, h3⟩
        have H1 := Aside0.mk h1
        have H2 := Aside0.mk h2
        have hcz1 : w6.cell? ⟨gb, 1, none⟩ = some (.slice A1 p.length c1) := Off.cell h3.off ((Lib.cell_of_heap (Lib.heap_setCell_same (Lib.heap_setCell_same HBX.out _) _) 1).trans rfl) (fun k => k.elim (fun k => by have k : gb = W.heap.size := k; have := HLT.out.1; have := HGB.out; omega) (fun k => HLT.out.2 (by rw [← HGB.out]; exact k)))
        clear h1 h2 h3
        go_wp2
        go_roundg (gk - 1)
        case measure => omega
        case rel => exact ⟨i + 1, _, r2, by first | rfl | (rw [HW.out]) | simp, by omega, ⟨HSN.out _ H1.out⟩, ⟨by rw [enc_append]; exact H2.out⟩⟩
    · have d0 : decide ((i : Int) < (l.length : Int)) = false := decide_eq_false (by omega)
      have hip : i = l.length := by omega
      subst hip
      go_wp2_with (first
        | (go_at_call 22
           (with_reducible refine (Tryd.Buffer_Bytes _ _ _ _ HMI.out.mu.es.buf.is).mono ?_)
           rintro x w4 ⟨v, rfl, hv, nd, hw4⟩
           have HV := Aside0.mk hv
           have HW4 := Aside0.mk hw4
           clear hv hw4)
        | fail)
      go_ret2
      obtain ⟨B, d, k1, k2, k3⟩ := owned HV.out (by have := HLE.out; omega)
      refine ⟨qs, B, d, HGO.out, by rw [k1]; rfl, k2, k3, ?_⟩
      rw [HW4.out]
      exact HMI.out.bel.trans ⟨rfl, rfl, rfl, Nat.le_refl _, fun _ _ => rfl⟩
end Go.Proofs.YtponeoodgfgejaaDoor.SidE

set_option linter.unusedVariables false
set_option linter.unusedSimpArgs false
namespace Go.Proofs.YtponeoodgfgejaaDoor.SidF
open Go.RowKit Go.Proofs.YtponeoodgfgejaaDoorW.PrintWords Go.Proofs.YtponeoodgfgejaaDoor.QAll PureA PureP HandF HandL PbkA BufA BufB SidB SidC SidD SidE

/-- Elements that are lent: what their rows say stands in an elder world. -/
def lent {α : Type} (W0 : World) (d : Kd α) : Kd α where
  sz := d.sz
  E := []
  K := fun _ x cs => d.K W0 x cs
  M := fun _ _ _ x cs => d.K W0 x cs
  K_len := fun h => d.K_len h
  K_one := fun h => d.K_one h
  K_below := fun _ h => h
  K_of_M := fun h => h
  M_mono := fun _ h => h
  M_bound := fun h => h
  M_move := fun _ h => h
  M_lower := fun _ h => h
theorem C_of_lent {α : Type} {W0 w : World} {d : Kd α} {A : Option Addr} {n : Nat} {xs : List α} (h : (lent W0 d).C w A n xs) (hb : Below W0.heap.size W0 w) : d.C w A n xs := by
  refine ⟨h.1, h.2.1, fun hp => ?_⟩
  obtain ⟨ad, e, hk⟩ := h.2.2 hp
  refine ⟨ad, e, fun j x hx => ?_⟩
  obtain ⟨cs, k1, k2, k3⟩ := hk j x hx
  exact ⟨cs, k1, d.K_below hb k2, k3⟩
theorem info56 : (Tryd.prog.info? 56).map (fun i => (i.zero, i.size, i.bytes)) = some (some (.agg #[.int .i64 0, .slice none 0 0]), 2, 32) := by kernel_rfl
theorem info39 : (Tryd.prog.info? 39).map (fun i => (i.zero, i.size, i.bytes)) = some (some (.agg #[.int .i64 0, .slice none 0 0]), 2, 32) := by kernel_rfl
/-- A chunk as it is packed. -/
def conv (x : S39) : S56 := ⟨x.f0, x.f1⟩

set_option maxHeartbeats 8000000 in
set_option maxRecDepth 100000 in
theorem sideChunks (l : List S39) (A : Option Addr) (c : Nat) (W : World) (hn : l.length ≤ 60) (hC : Kd.C k39 W A l.length l) :
    Calls Tryd.prog 9 #[.slice A l.length c] W fun x w' => ∃ B d, x = .returned (.slice B l.length d) ∧ Kd.C k56 w' B l.length (l.map conv) ∧ Below W.heap.size W w' := by
  have HR := Aside0.mk hC
  have HN := Aside0.mk hn
  clear hC hn
  go_enter Tryd.func9, Tryd.ntmps9
  go_wp2
  go_loopg [3, 8] l.length (fun gk v3 v8 w' => ∃ (i : Nat) (V : Value), v3 = V ∧ v8 = .int .i64 (i : Int) ∧ gk + i = l.length ∧ Aside0 ((lent W k56).R 56 w' W.heap.size (fun _ => True) V ((l.take i).map conv)) ∧ Aside0 (Below W.heap.size W w'))
  case atStart => exact ⟨0, _, rfl, rfl, rfl, ⟨Kd.R_nil _ _ _ _ _⟩, ⟨Below.refl _ _⟩⟩
  case round =>
    obtain ⟨i, V, rfl, rfl, hi, HO, HB⟩ := hrel
    by_cases q : i < l.length
    · have d0 : decide ((i : Int) < (l.length : Int)) = true := decide_eq_true (by omega)
      have hp0 : 0 ≤ (i : Int) := by omega
      have hq0 : (i : Int) < (l.length : Int) := by omega
      obtain ⟨ad, A1, c1, rfl, hx0, hx1, hl1, hi1⟩ := at_T39 HR.out (i : Int) hp0 hq0
      rw [Int.toNat_natCast] at hx0 hx1
      have hx0 := (HB.out.cell (World.block_lt_of_cell? W _ hx0)).trans hx0
      have hx1 := (HB.out.cell (World.block_lt_of_cell? W _ hx1)).trans hx1
      have hrd : rd_T39 l (i : Int) = l[i] := by unfold rd_T39; rw [Int.toNat_natCast, List.getD_eq_getElem?_getD, List.getElem?_eq_getElem q]; rfl
      rw [hrd] at hx0 hx1 hl1 hi1
      have HTK : Aside0 ((l.take (i + 1)).map conv = (l.take i).map conv ++ [⟨l[i].f0, l[i].f1⟩]) := ⟨by rw [List.take_succ_eq_append_getElem q, List.map_append]; rfl⟩
      have HK : Aside0 (k56.K W ⟨l[i].f0, l[i].f1⟩ [.int .i64 l[i].f0, .slice A1 l[i].f1.length c1]) := ⟨k56_mk W ⟨l[i].f0, l[i].f1⟩ hl1 hi1⟩
      have hw : wrap64 ((i : Int) + 1) = ((i + 1 : Nat) : Int) := by have := HN.out; unfold wrap64; omega
      have HW := Aside0.mk hw
      generalize l[i].f0 = ch at *
      generalize l[i].f1 = p at *
      clear hrd hl1 hi1 hw
      go_wp2_with (first
        | ((with_reducible refine gate_dst (N := 5) rfl ?_)
           (try (refine gate_guard (by rfl) ?_; dsimp only))
           refine box_event ?hg (N := 5) ?hd (cs := #[.int .i64 0, .slice none 0 0]) (t := 39) ?hr ?_
           (case hd => rfl)
           (case hg => rfl)
           (case hr => first | (go_simp; done) | (go_simp; rfl))
           intro gb hgb w5 hbox hb
           have HBX := Aside0.mk hbox
           have HB5 := Aside0.mk hb
           have HGB := Aside0.mk hgb
           have hcz0 : w5.cell? ⟨gb, 0, none⟩ = some (.int .i64 0) := (blk_cell HBX.out 0).trans rfl
           have hcz1 : w5.cell? ⟨gb, 1, none⟩ = some (.slice none 0 0) := (blk_cell HBX.out 1).trans rfl
           have hfz0 := blk_frozen HBX.out 0
           have hfz1 := blk_frozen HBX.out 1
           clear hbox hb hgb)
        | ((with_reducible refine gate_builtin (b := .append) (xs := #[.tmp 12, .tmp 18]) rfl ?_)
           at_builtin
           refine Kd.R_append (lent W k56) (w0 := W) W.heap.size rfl (.tmp 12) (.tmp 18) 28 56 (.agg #[.int .i64 0, .slice none 0 0]) 32 rfl Tryd.underlying28 info56 rfl (by show 0 < 2; decide) (by decide) u3 ((l.take i).map conv) ⟨ch, p⟩ [.int .i64 ch, .slice A1 p.length c1] (fun _ => True) (fun _ => False) rfl ?hx HK.out (fun _ h => h.elim) (fun _ _ => trivial) ?hR ?hB ?hs ?hlen ?_
           case hx => first | (go_simp; done) | (simp [Act.eval]; done)
           case hlen => have := HN.out; rw [List.length_map, List.length_take]; omega
           case hB => exact (HB.out.trans ((below_set (below_set HB5.out (by rw [HGB.out]; exact Nat.le_refl _)) (by rw [HGB.out]; exact Nat.le_refl _)).mono HB.out.size))
           case hs => exact (HB.out.trans ((below_set (below_set HB5.out (by rw [HGB.out]; exact Nat.le_refl _)) (by rw [HGB.out]; exact Nat.le_refl _)).mono HB.out.size)).size
           case hR => exact Kd.R_below HO.out (below_set (below_set HB5.out (by rw [HGB.out]; exact Nat.le_refl _)) (by rw [HGB.out]; exact Nat.le_refl _))
           intro v9 w9 ho9 hb9 hg9 hat9
           have HR9 := Aside0.mk ho9
           have HB9 := Aside0.mk hb9
           clear ho9 hb9 hg9 hat9)
        | fail)
      go_roundg (gk - 1)
      case measure => omega
      case rel => exact ⟨i + 1, v9, rfl, by first | rfl | (rw [HW.out]) | simp, by omega, ⟨by rw [HTK.out]; exact HR9.out⟩, HB9⟩
    · have d0 : decide ((i : Int) < (l.length : Int)) = false := decide_eq_false (by omega)
      have hip : i = l.length := by omega
      subst hip
      go_wp2
      go_ret
      obtain ⟨B, d, e1, e2, e3⟩ := Kd.R_reads HO.out
      rw [List.take_of_length_le (Nat.le_refl _)] at e1 e2 e3
      rw [List.length_map] at e1 e2 e3
      exact ⟨B, d, by rw [e1]; rfl, C_of_lent e3 HB.out, HB.out⟩

/-- R_append_step, whatever stands behind the else. -/
theorem append_law {P : Program} {ops : Array Oper} {o : Oper} {a : Act} {Q : Exit → Act → World → Prop} {Kc : Act → World → Prop} {E : Prop} {α : Type} (d : Kd α) {w0 W W1 : World} (base : Nat) (hgd : o.guard = none) (s x : Operand) (t e : TypeId) (z : Value) (bytes : Nat) (cs : List Value)
    (hW : W1 = W.alloc (.cells cs.toArray e)) (ho : o.op = .call { callee := .builtin .append, args := #[s, x], argTypes := #[t, t] })
    (ht : P.underlying t = some (.slice e)) (hinfo : (P.info? e).map (fun i => (i.zero, i.size, i.bytes)) = some (some z, d.sz, bytes)) (hz : z.cells.size = d.sz) (hs0 : 0 < d.sz) (hb0 : 0 < bytes)
    (v : Value) (xs : List α) (p : α) (ok okp : Nat → Prop) (hs : a.eval s = v) (hx : a.eval x = .slice (some ⟨W.heap.size, 0, none⟩) 1 1) (hp : d.M W base okp p cs) (hokp : ∀ k, okp k → ok k ∧ some k ≠ v.ownBlock) (hfresh : ∀ k, W.heap.size ≤ k → ok k)
    (HO : d.R e W base ok v xs) (HB : Below base w0 W) (hbase : base ≤ W.heap.size) (hl : (xs.length + 1) * bytes ≤ 140737488355328)
    (h : ∀ v1 w1, d.R e w1 base ok v1 (xs ++ [p]) → Below base w0 w1 → W.grownBy w1 v.ownBlock → (v1.ownBlock = v.ownBlock ∨ ∃ b, v1.ownBlock = some b ∧ W.heap.size ≤ b) → Kc (a.put o.dst v1) w1) :
    if Region.wanted o (yielded ops a.tmps) = true then Oper.wp P o a W1 Kc Q else E := by
  subst hW
  have hw : Region.wanted o (yielded ops a.tmps) = true := by simp [Region.wanted, hgd]
  have := Kd.R_append_step (ops := ops) (Q := Q) d base hw s x t e z bytes ho ht hinfo hz hs0 hb0 v xs p cs ok okp hs hx hp hokp hfresh HO HB hbase hl h
  rw [if_pos hw] at this ⊢
  exact this
/-- A payload as a chunk. -/
def toC (q : List Int) : S39 := ⟨q.getD 0 0, q.drop 1⟩
set_option maxHeartbeats 8000000 in
set_option maxRecDepth 100000 in
theorem chunks (qs : List (List Int)) (mx : Nat) (most : Int) (hm : (mx : Int) + 1 ≤ most) (B : Option Addr) (d : Nat) (W : World) (hd : (enc qs).length ≤ d) (hC : Kd.C (Kd.int .u8) W B (enc qs).length (enc qs)) (hn : qs.length ≤ 5000000) (hp : ∀ q ∈ qs, ∃ c t, q = c :: t ∧ 1 ≤ c ∧ c ≤ 3 ∧ t.length ≤ mx ∧ t.length ≤ 65000) :
    Calls Tryd.prog 10 #[.slice B (enc qs).length d, .int .i64 most] W fun x w' => ∃ A c, x = .returned (.tuple #[.slice A qs.length c, .bool true]) ∧ qs.length ≤ c ∧ Kd.C k39 w' A qs.length (qs.map toC) ∧ Below W.heap.size W w' := by
  have HP := Aside0.mk hp
  have HN := Aside0.mk hn
  have HM := Aside0.mk hm
  have HSL : Aside0 (Calls Tryd.prog 23 #[.slice B (enc qs).length d] W fun e w' => ∃ (v : Value) (A' : Option Addr) (c' : Nat), e = .returned (.tuple #[v, .int .i64 0]) ∧ v = .slice A' qs.length c' ∧ qs.length ≤ c' ∧ Kd.C HandL.KL w' A' qs.length qs ∧ Below W.heap.size W w') := ⟨by
    have := specLines B d (enc qs) qs W hC hd (fun p hq => by
      obtain ⟨c, t, rfl, h1, h2, h3, h4⟩ := hp p hq
      refine ⟨by simp; omega, fun k => ?_⟩
      have h5 := congrArg (fun l => l[0]?) k
      simp only [List.take_succ_cons] at h5
      have e1 : (strOfNums (c :: t.take 3)).toList[0]? = some (c.toNat.toUInt8) := by
        simp [strOfNums]
      have e2 : (strOfNums [69, 82, 82, 32]).toList[0]? = some (69 : UInt8) := by decide +kernel
      rw [e1, e2] at h5
      have h6 := Option.some.inj h5
      have : c = 1 ∨ c = 2 ∨ c = 3 := by omega
      rcases this with rfl | rfl | rfl <;> exact absurd h6 (by decide)) hn (Nat.le_refl _) (by rw [List.take_length])
    rw [parse_whole] at this
    exact this⟩
  clear hp hn hm hC hd
  generalize (enc qs).length = n0 at *
  go_enter Tryd.func10, Tryd.ntmps10
  go_wp2_with (first
    | (go_at_call 23
       (with_reducible refine HSL.out.mono ?_)
       rintro x w4 ⟨v4, A4, c4, rfl, rfl, hc4, hC4, hb4⟩
       have HB4 := Aside0.mk hb4
       have HC4 := Aside0.mk hC4
       clear hb4 hC4 hc4)
    | fail)
  go_loopg [8, 20] qs.length (fun gk v8 v20 w' => ∃ (i : Nat) (V : Value), v8 = V ∧ v20 = .int .i64 (i : Int) ∧ gk + i = qs.length ∧ Aside0 ((lent w4 k39).R 39 w' w4.heap.size (fun _ => True) V ((qs.take i).map toC)) ∧ Aside0 (Below w4.heap.size w4 w'))
  case atStart => exact ⟨0, _, rfl, rfl, rfl, ⟨Kd.R_nil _ _ _ _ _⟩, ⟨Below.refl _ _⟩⟩
  case round =>
    obtain ⟨i, V, rfl, rfl, hi, HO, HB⟩ := hrel
    by_cases q : i < qs.length
    · have d0 : decide ((i : Int) < (qs.length : Int)) = true := decide_eq_true (by omega)
      have hp0 : 0 ≤ (i : Int) := by omega
      have hq0 : (i : Int) < (qs.length : Int) := by omega
      obtain ⟨ad, A1, c1, rfl, hx0, hl1, hi1⟩ := atR HC4.out (i : Int) hp0 hq0
      rw [Int.toNat_natCast] at hx0
      have hrd : qs.getD (i : Int).toNat [] = qs[i] := by rw [Int.toNat_natCast, List.getD_eq_getElem?_getD, List.getElem?_eq_getElem q]; rfl
      rw [hrd] at hl1 hi1
      rw [show qs.getD i [] = qs[i] from hrd] at hx0
      have hx0 := (HB.out.cell (World.block_lt_of_cell? w4 _ hx0)).trans hx0
      obtain ⟨ch, t, ep, hc1, hc2, ht1, ht2⟩ := HP.out _ (List.getElem_mem q)
      have HTK : Aside0 ((qs.take (i + 1)).map toC = (qs.take i).map toC ++ [⟨ch, t⟩]) := ⟨by rw [List.take_succ_eq_append_getElem q, List.map_append, ep]; rfl⟩
      rw [ep] at hx0 hl1 hi1
      obtain ⟨a1, rfl, hat⟩ := C_cells hi1 (by simp)
      have hy0 : wr.cell? (a1.add 0) = some (.int .u8 ch) := by
        have h := hat 0 ch rfl
        exact (HB.out.cell (World.block_lt_of_cell? w4 _ h)).trans h
      have ha0 : a1.add 0 = a1 := by unfold Addr.add; split <;> simp_all
      have hy1 : wr.cell? a1 = some (.int .u8 ch) := by rw [ha0] at hy0; exact hy0
      obtain ⟨A2, hcut, hC2⟩ := cutD (some a1) c1 (ch :: t) 1 (by simp) hl1
      have HK : Aside0 (k39.K w4 ⟨ch, t⟩ [.int .i64 ch, .slice A2 t.length (c1 - 1)]) := ⟨k39_mk w4 ⟨ch, t⟩ (A1 := A2) (c1 := c1 - 1) (by simp only [List.length_cons] at hl1; show t.length ≤ c1 - 1; omega) (by have := hC2 w4 hi1; exact this)⟩
      have hcut : ∀ W : World, (Instr.slice 25 (.slice (some a1) (t.length + 1) c1) (some (.int .i64 1)) none none).run Tryd.prog W = .ok (.slice A2 t.length (c1 - 1)) W := hcut
      have hw : wrap64 ((i : Int) + 1) = ((i + 1 : Nat) : Int) := by have := HN.out; unfold wrap64; omega
      have HW := Aside0.mk hw
      have hwc : IntKind.i64.wrap ch = ch := by rw [IntKind.wrap_i64]; omega
      have z1 : decide (ch < 1) = false := decide_eq_false (by omega)
      have z2 : decide (3 < ch) = false := decide_eq_false (by omega)
      have z3 : decide (most < (t.length : Int) + 1) = false := decide_eq_false (by have := HM.out; omega)
      have HT2 := Aside0.mk ht2
      have HL1 := Aside0.mk hl1
      clear hrd hl1 hi1 hw ep ht1 ht2 hat hC2 ha0
      go_wp2
      go_region_law (first
        | (refine append_law (lent w4 k39) (w0 := w4) (W := wr.drew) w4.heap.size rfl (.tmp 45) (.tmp 53) 22 39 (.agg #[.int .i64 0, .slice none 0 0]) 32 [.int .i64 ch, .slice A2 t.length (c1 - 1)] rfl rfl Tryd.underlying22 info39 rfl (by show 0 < 2; decide) (by decide) _ ((qs.take i).map toC) ⟨ch, t⟩ (fun _ => True) (fun _ => False) rfl ?hx HK.out (fun _ h => h.elim) (fun _ _ => trivial) ?hR ?hB ?hs ?hlen ?_
           case hx => first | rfl | (go_simp; done) | (simp [Act.eval]; done)
           case hlen => have := HN.out; rw [List.length_map, List.length_take]; omega
           case hB => exact below_drew HB.out
           case hs => exact (below_drew HB.out).size
           case hR => exact Kd.R_below HO.out (below_drew (Below.refl _ _))
           intro v9 w9 ho9 hb9 hg9 hat9
           have HR9 := Aside0.mk ho9
           have HB9 := Aside0.mk hb9
           clear ho9 hb9 hg9 hat9)
        | fail)
      all_goals (
        go_wp2
        go_roundg (gk - 1)
        case measure => omega
        case rel => exact ⟨i + 1, v9, rfl, by first | rfl | (rw [HW.out]) | simp, by omega, ⟨by rw [HTK.out]; exact HR9.out⟩, HB9⟩)
    · have d0 : decide ((i : Int) < (qs.length : Int)) = false := decide_eq_false (by omega)
      have hip : i = qs.length := by omega
      subst hip
      go_wp2
      go_ret2
      obtain ⟨A', c', e1, e2, e3⟩ := Kd.R_reads HO.out
      rw [List.take_of_length_le (Nat.le_refl _)] at e1 e2 e3
      rw [List.length_map] at e1 e2 e3
      exact ⟨A', c', by rw [e1]; rfl, e2, C_of_lent e3 HB.out, HB4.out.trans (HB.out.mono HB4.out.size)⟩
end Go.Proofs.YtponeoodgfgejaaDoor.SidF
