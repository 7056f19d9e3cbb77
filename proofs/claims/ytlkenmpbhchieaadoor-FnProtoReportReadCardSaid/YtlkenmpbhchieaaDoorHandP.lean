/- ReportStatus.scanFirstLine, decodeReportStatus, decodeCommandStatus, walked. -/
import Derived.Test.YtlkenmpbhchieaaDoorHandO
set_option linter.unusedVariables false
set_option linter.unusedSimpArgs false
namespace Go.Proofs.YtlkenmpbhchieaaDoor.HandP
open Go.RowKit Go.Proofs.YtlkenmpbhchieaaDoorW.PrintWords Go.Proofs.YtlkenmpbhchieaaDoorW.PrintLast Go.Proofs.YtlkenmpbhchieaaDoorW.PrintMore Go.Proofs.YtlkenmpbhchieaaDoor.QAll Txt PureA HandA HandB HandC HandD HandE HandF HandG HandH HandI PureP HandJ PureQ PureR PureS Ptr HandO

/-- Texts of the call's own, place by place. -/
theorem strs_at {w : World} {base : Nat} {v : Value} {l : List ByteArray} (h : Kd.R Kd.string 9 w base (fun _ => True) v l) (hl : 0 < l.length) : ∃ g c, v = .slice (some ⟨g, 0, none⟩) l.length c ∧ ∀ j s, l[j]? = some s → w.cell? ⟨g, j, none⟩ = some (.string s) := by
  obtain ⟨g, c, rfl, _, _, _⟩ := Kd.R_form h hl
  refine ⟨g, c, rfl, fun j s hj => ?_⟩
  have hC := (Kd.R_reads' h).2.2
  obtain ⟨ad, e, hc⟩ := hC.2.2 hl
  cases e
  obtain ⟨cs, h1, h2, h3⟩ := hc j s hj
  obtain rfl : cs = [.string s] := h2
  have := h3 0 _ rfl
  have e2 : (⟨g, 0, none⟩ : Addr).add (j * Kd.string.sz + 0) = ⟨g, j, none⟩ := by
    have e1 : j * Kd.string.sz + 0 = j := Nat.mul_one j
    rw [e1]
    unfold Addr.add; split <;> simp_all
  rw [e2] at this
  exact this
abbrev kC : Kd S32 := ptr 51 k32
theorem info48 : (Tryd.prog.info? 48).map (fun i => (i.zero, i.size, i.bytes)) = some (some (.pointer none), 1, 8) := by kernel_rfl
set_option maxHeartbeats 8000000 in
set_option maxRecDepth 100000 in
theorem reportStatus (rs : Nat) (us u : ByteArray) (V : Value) (A : Option Addr) (c : Nat) (w : World) (hs : w.heap[rs]? = some (.cells #[.string us, V] 47 (0, 0))) (hC : Kd.C (Kd.int .u8) w A (bytesOf (first u)).length (bytesOf (first u))) (hc : (bytesOf (first u)).length ≤ c) (hu : Word u) :
    Calls Tryd.prog 23 #[.pointer (some ⟨rs, 0, none⟩), .slice A (bytesOf (first u)).length c] w fun e w' => e = .returned .nilIface ∧ w'.heap[rs]? = some (.cells #[.string u, V] 47 (0, 0)) ∧ Far w w' (fun k => k = rs) := by
  obtain ⟨t1, t2, t3⟩ := PureS.trimmed (first u) _ (first_list u)
  obtain ⟨m, hm⟩ : ∃ m, m = (wUnpack.toList ++ 32 :: u.toList).length := ⟨_, rfl⟩
  rw [← hm] at t1 t2 t3
  have hm2 : m = u.size + 7 := by rw [hm, toList_lit #[117, 110, 112, 97, 99, 107]]; simp [size_list]
  have hul := hu.len
  generalize bytesOf (first u) = p at hC hc t1 t2 t3
  obtain ⟨K, hK⟩ := split_two 2 (Or.inl rfl) (strOfNums (p.take m)) wUnpack u (by rw [strOfNums_size, List.length_take]; omega) t1 (by rw [toList_lit #[117, 110, 112, 97, 99, 107]]; decide) (no_blank hu)
  have hsp := hK K (Nat.le_refl _)
  have HFL : Aside0 (∀ W, Below w.heap.size w W → Calls Tryd.prog 24 #[.slice A p.length c] W fun e w' => e = .returned (.bool false) ∧ Drawn0 W w') := ⟨fun W hb => packp_isFlush.calls A c p false W (Kd.C_below hC hb) hc (by unfold packp_isFlush.f; rw [Option.some.injEq, beq_eq_false_iff_ne]; omega)⟩
  have HTR : Aside0 (∀ W A1, Below w.heap.size w W → Kd.C (Kd.int .u8) W A1 1 [10] → Calls Tryd.prog 33 #[.slice A p.length c, .slice A1 1 1] W fun e w' => e = .returned (.slice A m c) ∧ Drawn0 W w') := ⟨fun W A1 hb h1 => trimNl A A1 c m p W (Kd.C_below hC hb) hc h1 (by omega) t3 (by omega)⟩
  have HCV : Aside0 (∀ W, Below w.heap.size w W → (convert 28 9 (.slice A m c)).run Tryd.prog W = .ok (.string (strOfNums (p.take m))) W) := ⟨fun W hb => Kd.C_string (P := Tryd.prog) Tryd.underlying28 Tryd.underlying5 Tryd.underlying9 (by
    have h := (Kd.reads_of_C (d := (0 : Int)) (Kd.C_below hC hb)).take_ m (by omega)
    exact Kd.C_of_reads (h1 := fun _ => rfl) h)⟩
  have HSP : Aside0 (∀ W, Calls Tryd.prog 35 #[.string (strOfNums (p.take m)), .string ⟨#[32]⟩, .int .i64 2] W fun e w' => ∃ v, e = .returned v ∧ Kd.R Kd.string 9 w' W.heap.size (fun _ => True) v [wUnpack, u] ∧ Below W.heap.size W w') := ⟨fun W => packp_zzSplitN.calls K _ _ 2 _ W hsp⟩
  have HRS := Aside0.mk hs
  clear hs hC hc t1 t2 t3 hm hm2 hsp hK hul hu
  go_enter Tryd.func23, Tryd.ntmps23
  go_upto_region 6 with (first
    | (go_at_call 24; (with_reducible refine (HFL.out _ (Below.refl _ _)).mono ?_); rintro e w1 ⟨rfl, hd⟩; have HB1 := Aside0.mk (Drawn0.below hd); clear hd)
    | (go_at_call 34; (with_reducible refine (eol _).mono ?_); rintro e w2 ⟨A1, rfl, h1, hb⟩; have HB2 := Aside0.mk (below_step HB1.out hb); have HN := Aside0.mk h1; clear hb h1)
    | (go_at_call 33; (with_reducible refine (HTR.out _ _ HB2.out HN.out).mono ?_); rintro e w3 ⟨rfl, hd⟩; have HB3 := Aside0.mk (below_step HB2.out (Drawn0.below hd)); have hcv := HCV.out _ HB3.out; clear hd)
    | (go_at_call 35; (with_reducible refine (HSP.out _).mono ?_); rintro e w4 ⟨v4, rfl, hr, hb⟩; have HB4 := Aside0.mk (below_step HB3.out hb); have HR4 := Aside0.mk hr; clear hb hr))
  obtain ⟨g, c4, rfl, hg⟩ := strs_at HR4.out (by simp)
  have hc0 : w4.cell? ⟨g, 0, none⟩ = some (.string ⟨#[117, 110, 112, 97, 99, 107]⟩) := hg 0 _ rfl
  have hc1 : w4.cell? ⟨g, 1, none⟩ = some (.string u) := hg 1 _ rfl
  have hrs4 := blk_below HRS.out HB4.out
  have hcs : w4.cell? ⟨rs, 0, none⟩ = some (.string us) := (blk_cell hrs4 0).trans rfl
  have hzs := blk_frozen hrs4 0
  have HRS4 := Aside0.mk hrs4
  clear hg hcv hrs4
  go_wp2
  go_ret
  exact ⟨rfl, blk_put HRS4.out 0 _ rfl, (Far.of_below HB4.out (fun k => k = rs)).set (g := rs) rfl _⟩
set_option maxHeartbeats 8000000 in
set_option maxRecDepth 100000 in
theorem statusNg (rs : Nat) (us : ByteArray) (V : Value) (s : S32) (l : List S32) (base : Nat) (O : Nat → Prop) (A : Option Addr) (c : Nat) (w : World) (hs : w.heap[rs]? = some (.cells #[.string us, V] 47 (0, 0))) (hR : Kd.R kC 48 w base (fun k => ¬ O k) V l) (hb : base ≤ w.heap.size) (hO : ∀ k, O k → k < w.heap.size) (hrs : O rs) (hl : l.length ≤ 1000) (hC : Kd.C (Kd.int .u8) w A (bytesOf (ngLine s)).length (bytesOf (ngLine s))) (hc : (bytesOf (ngLine s)).length ≤ c) (h0 : Word s.f0) (h1 : Word s.f1) :
    Calls Tryd.prog 25 #[.pointer (some ⟨rs, 0, none⟩), .slice A (bytesOf (ngLine s)).length c] w fun e w' => e = .returned .nilIface ∧ ∃ V', w'.heap[rs]? = some (.cells #[.string us, V'] 47 (0, 0)) ∧ Kd.R kC 48 w' base (fun k => ¬ O k) V' (l ++ [s]) ∧ Far w w' (fun k => k = rs ∨ some k = V.ownBlock) := by
  obtain ⟨t1, t2, t3⟩ := PureS.trimmed (ngLine s) _ (ng_list s)
  obtain ⟨m, hm⟩ : ∃ m, m = (wNg.toList ++ 32 :: (s.f0.toList ++ 32 :: s.f1.toList)).length := ⟨_, rfl⟩
  rw [← hm] at t1 t2 t3
  have hm2 : m ≤ 200 := by have := h0.len; have := h1.len; rw [hm, toList_lit #[110, 103]]; simp [size_list]; omega
  generalize bytesOf (ngLine s) = p at hC hc t1 t2 t3
  obtain ⟨K, hK⟩ := split_three (strOfNums (p.take m)) wNg s.f0 s.f1 (by rw [strOfNums_size, List.length_take]; omega) t1 (by rw [toList_lit #[110, 103]]; decide) (no_blank h0)
  have hsp := hK K (Nat.le_refl _)
  have HTR : Aside0 (∀ W A1, Below w.heap.size w W → Kd.C (Kd.int .u8) W A1 1 [10] → Calls Tryd.prog 33 #[.slice A p.length c, .slice A1 1 1] W fun e w' => e = .returned (.slice A m c) ∧ Drawn0 W w') := ⟨fun W A1 hb h1 => trimNl A A1 c m p W (Kd.C_below hC hb) hc h1 (by omega) t3 (by omega)⟩
  have HCV : Aside0 (∀ W, Below w.heap.size w W → (convert 28 9 (.slice A m c)).run Tryd.prog W = .ok (.string (strOfNums (p.take m))) W) := ⟨fun W hb => Kd.C_string (P := Tryd.prog) Tryd.underlying28 Tryd.underlying5 Tryd.underlying9 (by
    have h := (Kd.reads_of_C (d := (0 : Int)) (Kd.C_below hC hb)).take_ m (by omega)
    exact Kd.C_of_reads (h1 := fun _ => rfl) h)⟩
  have HSP : Aside0 (∀ W, Calls Tryd.prog 35 #[.string (strOfNums (p.take m)), .string ⟨#[32]⟩, .int .i64 3] W fun e w' => ∃ v, e = .returned v ∧ Kd.R Kd.string 9 w' W.heap.size (fun _ => True) v [wNg, s.f0, s.f1] ∧ Below W.heap.size W w') := ⟨fun W => packp_zzSplitN.calls K _ _ 3 _ W hsp⟩
  have HRS := Aside0.mk hs
  have HR := Aside0.mk hR
  have HBB := Aside0.mk hb
  have HOO := Aside0.mk hO
  have HRO := Aside0.mk hrs
  have HLL := Aside0.mk hl
  clear hs hC hc t1 t2 t3 hm hm2 hsp hK hR hb hO hrs h0 h1 hl
  go_enter Tryd.func25, Tryd.ntmps25
  go_upto_region 4 with (first
    | (go_at_call 34; (with_reducible refine (eol _).mono ?_); rintro e w2 ⟨A1, rfl, h1, hb⟩; have HB2 := Aside0.mk hb; have HN := Aside0.mk h1; clear hb h1)
    | (go_at_call 33; (with_reducible refine (HTR.out _ _ HB2.out HN.out).mono ?_); rintro e w3 ⟨rfl, hd⟩; have HB3 := Aside0.mk (below_step HB2.out (Drawn0.below hd)); have hcv := HCV.out _ HB3.out; clear hd)
    | (go_at_call 35; (with_reducible refine (HSP.out _).mono ?_); rintro e w4 ⟨v4, rfl, hr, hb⟩; have HB4 := Aside0.mk (below_step HB3.out hb); have HR4 := Aside0.mk hr; clear hb hr))
  obtain ⟨g, c4, rfl, hg⟩ := strs_at HR4.out (by simp)
  have hc0 : w4.cell? ⟨g, 0, none⟩ = some (.string ⟨#[110, 103]⟩) := hg 0 _ rfl
  have hc1 : w4.cell? ⟨g, 1, none⟩ = some (.string s.f0) := hg 1 _ rfl
  have hc2 : w4.cell? ⟨g, 2, none⟩ = some (.string s.f1) := hg 2 _ rfl
  clear hg hcv
  go_upto_region 10 with fail
  obtain ⟨A7, c7, rfl⟩ := Kd.R_slice HR.out
  have hrs4 := blk_below HRS.out HB4.out
  have HB5 : Aside0 (Below w.heap.size w (w4.alloc (.cells #[.string s.f0, .string s.f1] 51))) := ⟨below_step HB4.out (below_alloc (Below.refl _ _) _)⟩
  have HM5 : Aside0 (kC.M (w4.alloc (.cells #[.string s.f0, .string s.f1] 51)) base (fun k => w4.heap.size ≤ k) s [.pointer (some ⟨w4.heap.size, 0, none⟩)]) := ⟨ptr_new (k32_mkM _ _ _ s) (Nat.le_trans HBB.out HB4.out.size) (Nat.le_refl _)⟩
  have HRS5 : Aside0 ((w4.alloc (.cells #[.string s.f0, .string s.f1] 51)).heap[rs]? = some (.cells #[.string us, .slice A7 l.length c7] 47 (0, 0))) := ⟨blk_alloc hrs4 _⟩
  have HZ5 : Aside0 (w4.heap.size ≤ (w4.alloc (.cells #[.string s.f0, .string s.f1] 51)).heap.size ∧ w.heap.size ≤ w4.heap.size) := ⟨(below_alloc (Below.refl _ _) _ : Below w4.heap.size w4 _).size, HB4.out.size⟩
  clear hrs4 hc0 hc1 hc2
  obtain ⟨cs, hcs⟩ : ∃ cs, cs = w4.heap.size := ⟨_, rfl⟩
  rw [← hcs] at HM5 HZ5
  simp only [← hcs]
  clear hcs
  generalize w4.alloc (.cells #[.string s.f0, .string s.f1] 51) = w5 at HB5 HM5 HRS5 HZ5 ⊢
  have hcL : w5.cell? ⟨rs, 1, none⟩ = some (.slice A7 l.length c7) := (blk_cell HRS5.out 1).trans rfl
  go_wp2_with (first
    | ((with_reducible refine gate_builtin (b := .append) (xs := #[.tmp 48, .tmp 50]) rfl ?_); at_builtin; refine Kd.R_append kC (w0 := w) (W := w5) base rfl (.tmp 48) (.tmp 50) 45 48 (.pointer none) 8 rfl Tryd.underlying45 info48 rfl (by decide) (by omega) (.slice A7 l.length c7) l s [.pointer (some ⟨cs, 0, none⟩)] (fun k => ¬ O k) (fun k => cs ≤ k) rfl rfl HM5.out (fun k hk => ⟨fun ho => by have := HOO.out k ho; have := HZ5.out; omega, fun he => by have := Kd.R_lt HR.out k he.symm; have := HZ5.out; omega⟩) (fun k hk ho => by have := HOO.out k ho; have := HZ5.out; omega) (Kd.R_below HR.out HB5.out) (HB5.out.mono HBB.out) (Nat.le_trans HBB.out HB5.out.size) (by have := HLL.out; omega) ?_; intro v7 w7 ho7 hb7 hg7 hat7; have HO7 := Aside0.mk ho7; have HF7 : Aside0 (Far w w7 (fun k => k = rs ∨ some k = (Value.slice A7 l.length c7).ownBlock)) := ⟨(Far.of_below HB5.out _).trans ⟨hg7.os, hg7.tape, hg7.output, hg7.size, fun k hk hn => hg7.block k hk (fun he => hn (Or.inr he))⟩⟩; have hrs7 : w7.heap[rs]? = some (.cells #[.string us, .slice A7 l.length c7] 47 (0, 0)) := blk_grown HRS5.out hg7 (fun he => HR.out.1 rs he.symm HRO.out); have hz7 := blk_frozen hrs7 1; have hc7_ := (blk_cell hrs7 1).trans rfl; have HRS7 := Aside0.mk hrs7; clear ho7 hb7 hg7 hat7 hrs7; obtain ⟨A8, c8, e8⟩ := Kd.R_slice HO7.out; subst e8))
  go_ret
  have hO7 := HO7.out
  rw [List.length_append, List.length_singleton] at hO7
  exact ⟨rfl, _, blk_put HRS7.out 1 _ rfl, Kd.R_far (p := ⟨rs, 1, none⟩) hO7 (fun k hk e => hk (by rw [e]; exact HRO.out)) _, HF7.out.set (Or.inl rfl) _⟩
set_option maxHeartbeats 8000000 in
set_option maxRecDepth 100000 in
theorem statusOk (rs : Nat) (us : ByteArray) (V : Value) (s : S32) (l : List S32) (base : Nat) (O : Nat → Prop) (A : Option Addr) (c : Nat) (w : World) (hs : w.heap[rs]? = some (.cells #[.string us, V] 47 (0, 0))) (hR : Kd.R kC 48 w base (fun k => ¬ O k) V l) (hb : base ≤ w.heap.size) (hO : ∀ k, O k → k < w.heap.size) (hrs : O rs) (hl : l.length ≤ 1000) (hC : Kd.C (Kd.int .u8) w A (bytesOf (okLine s)).length (bytesOf (okLine s))) (hc : (bytesOf (okLine s)).length ≤ c) (h0 : Word s.f0) (h1 : Word s.f1) (hok : s.f1.toList = [111, 107]) :
    Calls Tryd.prog 25 #[.pointer (some ⟨rs, 0, none⟩), .slice A (bytesOf (okLine s)).length c] w fun e w' => e = .returned .nilIface ∧ ∃ V', w'.heap[rs]? = some (.cells #[.string us, V'] 47 (0, 0)) ∧ Kd.R kC 48 w' base (fun k => ¬ O k) V' (l ++ [s]) ∧ Far w w' (fun k => k = rs ∨ some k = V.ownBlock) := by
  obtain ⟨t1, t2, t3⟩ := PureS.trimmed (okLine s) _ (ok_list s)
  obtain ⟨m, hm⟩ : ∃ m, m = (wOk.toList ++ 32 :: s.f0.toList).length := ⟨_, rfl⟩
  rw [← hm] at t1 t2 t3
  have hm2 : m ≤ 200 := by have := h0.len; have := h1.len; rw [hm, toList_lit #[111, 107]]; simp [size_list]; omega
  generalize bytesOf (okLine s) = p at hC hc t1 t2 t3
  obtain ⟨K, hK⟩ := split_two 3 (Or.inr rfl) (strOfNums (p.take m)) wOk s.f0 (by rw [strOfNums_size, List.length_take]; omega) t1 (by rw [toList_lit #[111, 107]]; decide) (no_blank h0)
  have hsp := hK K (Nat.le_refl _)
  have HTR : Aside0 (∀ W A1, Below w.heap.size w W → Kd.C (Kd.int .u8) W A1 1 [10] → Calls Tryd.prog 33 #[.slice A p.length c, .slice A1 1 1] W fun e w' => e = .returned (.slice A m c) ∧ Drawn0 W w') := ⟨fun W A1 hb h1 => trimNl A A1 c m p W (Kd.C_below hC hb) hc h1 (by omega) t3 (by omega)⟩
  have HCV : Aside0 (∀ W, Below w.heap.size w W → (convert 28 9 (.slice A m c)).run Tryd.prog W = .ok (.string (strOfNums (p.take m))) W) := ⟨fun W hb => Kd.C_string (P := Tryd.prog) Tryd.underlying28 Tryd.underlying5 Tryd.underlying9 (by
    have h := (Kd.reads_of_C (d := (0 : Int)) (Kd.C_below hC hb)).take_ m (by omega)
    exact Kd.C_of_reads (h1 := fun _ => rfl) h)⟩
  have HSP : Aside0 (∀ W, Calls Tryd.prog 35 #[.string (strOfNums (p.take m)), .string ⟨#[32]⟩, .int .i64 3] W fun e w' => ∃ v, e = .returned v ∧ Kd.R Kd.string 9 w' W.heap.size (fun _ => True) v [wOk, s.f0] ∧ Below W.heap.size W w') := ⟨fun W => packp_zzSplitN.calls K _ _ 3 _ W hsp⟩
  have HRS := Aside0.mk hs
  have HR := Aside0.mk hR
  have HBB := Aside0.mk hb
  have HOO := Aside0.mk hO
  have HRO := Aside0.mk hrs
  have HLL := Aside0.mk hl
  clear hs hC hc t1 t2 t3 hm hm2 hsp hK hR hb hO hrs h0 h1 hl
  go_enter Tryd.func25, Tryd.ntmps25
  go_upto_region 4 with (first
    | (go_at_call 34; (with_reducible refine (eol _).mono ?_); rintro e w2 ⟨A1, rfl, h1, hb⟩; have HB2 := Aside0.mk hb; have HN := Aside0.mk h1; clear hb h1)
    | (go_at_call 33; (with_reducible refine (HTR.out _ _ HB2.out HN.out).mono ?_); rintro e w3 ⟨rfl, hd⟩; have HB3 := Aside0.mk (below_step HB2.out (Drawn0.below hd)); have hcv := HCV.out _ HB3.out; clear hd)
    | (go_at_call 35; (with_reducible refine (HSP.out _).mono ?_); rintro e w4 ⟨v4, rfl, hr, hb⟩; have HB4 := Aside0.mk (below_step HB3.out hb); have HR4 := Aside0.mk hr; clear hb hr))
  obtain ⟨g, c4, rfl, hg⟩ := strs_at HR4.out (by simp)
  have hc0 : w4.cell? ⟨g, 0, none⟩ = some (.string ⟨#[111, 107]⟩) := hg 0 _ rfl
  have hc1 : w4.cell? ⟨g, 1, none⟩ = some (.string s.f0) := hg 1 _ rfl
  clear hg hcv
  go_upto_region 10 with fail
  obtain ⟨A7, c7, rfl⟩ := Kd.R_slice HR.out
  have hrs4 := blk_below HRS.out HB4.out
  have HB5 : Aside0 (Below w.heap.size w (w4.alloc (.cells #[.string s.f0, .string ⟨#[111, 107]⟩] 51))) := ⟨below_step HB4.out (below_alloc (Below.refl _ _) _)⟩
  have HM5 : Aside0 (kC.M (w4.alloc (.cells #[.string s.f0, .string ⟨#[111, 107]⟩] 51)) base (fun k => w4.heap.size ≤ k) s [.pointer (some ⟨w4.heap.size, 0, none⟩)]) := ⟨ptr_new (by have e : s.f1 = (⟨#[111, 107]⟩ : ByteArray) := ba_ext (by rw [hok, toList_lit]); rw [← e]; exact k32_mkM _ _ _ s) (Nat.le_trans HBB.out HB4.out.size) (Nat.le_refl _)⟩
  have HRS5 : Aside0 ((w4.alloc (.cells #[.string s.f0, .string ⟨#[111, 107]⟩] 51)).heap[rs]? = some (.cells #[.string us, .slice A7 l.length c7] 47 (0, 0))) := ⟨blk_alloc hrs4 _⟩
  have HZ5 : Aside0 (w4.heap.size ≤ (w4.alloc (.cells #[.string s.f0, .string ⟨#[111, 107]⟩] 51)).heap.size ∧ w.heap.size ≤ w4.heap.size) := ⟨(below_alloc (Below.refl _ _) _ : Below w4.heap.size w4 _).size, HB4.out.size⟩
  clear hrs4 hc0 hc1
  obtain ⟨cs, hcs⟩ : ∃ cs, cs = w4.heap.size := ⟨_, rfl⟩
  rw [← hcs] at HM5 HZ5
  simp only [← hcs]
  clear hcs
  generalize w4.alloc (.cells #[.string s.f0, .string ⟨#[111, 107]⟩] 51) = w5 at HB5 HM5 HRS5 HZ5 ⊢
  have hcL : w5.cell? ⟨rs, 1, none⟩ = some (.slice A7 l.length c7) := (blk_cell HRS5.out 1).trans rfl
  go_wp2_with (first
    | ((with_reducible refine gate_builtin (b := .append) (xs := #[.tmp 48, .tmp 50]) rfl ?_); at_builtin; refine Kd.R_append kC (w0 := w) (W := w5) base rfl (.tmp 48) (.tmp 50) 45 48 (.pointer none) 8 rfl Tryd.underlying45 info48 rfl (by decide) (by omega) (.slice A7 l.length c7) l s [.pointer (some ⟨cs, 0, none⟩)] (fun k => ¬ O k) (fun k => cs ≤ k) rfl rfl HM5.out (fun k hk => ⟨fun ho => by have := HOO.out k ho; have := HZ5.out; omega, fun he => by have := Kd.R_lt HR.out k he.symm; have := HZ5.out; omega⟩) (fun k hk ho => by have := HOO.out k ho; have := HZ5.out; omega) (Kd.R_below HR.out HB5.out) (HB5.out.mono HBB.out) (Nat.le_trans HBB.out HB5.out.size) (by have := HLL.out; omega) ?_; intro v7 w7 ho7 hb7 hg7 hat7; have HO7 := Aside0.mk ho7; have HF7 : Aside0 (Far w w7 (fun k => k = rs ∨ some k = (Value.slice A7 l.length c7).ownBlock)) := ⟨(Far.of_below HB5.out _).trans ⟨hg7.os, hg7.tape, hg7.output, hg7.size, fun k hk hn => hg7.block k hk (fun he => hn (Or.inr he))⟩⟩; have hrs7 : w7.heap[rs]? = some (.cells #[.string us, .slice A7 l.length c7] 47 (0, 0)) := blk_grown HRS5.out hg7 (fun he => HR.out.1 rs he.symm HRO.out); have hz7 := blk_frozen hrs7 1; have hc7_ := (blk_cell hrs7 1).trans rfl; have HRS7 := Aside0.mk hrs7; clear ho7 hb7 hg7 hat7 hrs7; obtain ⟨A8, c8, e8⟩ := Kd.R_slice HO7.out; subst e8))
  go_ret
  have hO7 := HO7.out
  rw [List.length_append, List.length_singleton] at hO7
  exact ⟨rfl, _, blk_put HRS7.out 1 _ rfl, Kd.R_far (p := ⟨rs, 1, none⟩) hO7 (fun k hk e => hk (by rw [e]; exact HRO.out)) _, HF7.out.set (Or.inl rfl) _⟩
#print axioms reportStatus
#print axioms statusNg
#print axioms statusOk
end Go.Proofs.YtlkenmpbhchieaaDoor.HandP
