/- FnTagText, walked. -/
import Derived.Test.YtddnepddilbikaaDoorObjG
import Derived.Test.YtddnepddilbikaaDoorObjK
import Derived.Test.YtddnepddilbikaaDoorPureN
set_option linter.unusedVariables false
set_option linter.unusedSimpArgs false
namespace Go.Proofs.YtddnepddilbikaaDoor.WalkT
open Go.RowKit Go.Proofs.YtddnepddilbikaaDoorW.PrintLast Go.Proofs.YtddnepddilbikaaDoorW.PrintMore Go.Proofs.YtddnepddilbikaaDoor.QAll Txt SrtL ObjA ObjB ObjC ObjD ObjE ObjF ObjG ObjK PureN
open Go.Proofs.YtddnepddilbikaaDoorW.PrintWords hiding nums

theorem tab_below {n : String} {k : IntKind} {zs : List Int} {w w' : World} (h : Lib.TabIs Tryd.prog w n k zs) (hb : Below w.heap.size w w') : Lib.TabIs Tryd.prog w' n k zs := by
  unfold Lib.TabIs World.var? at h ⊢
  cases hg : Tryd.prog.globalNamed n with
  | none => rw [hg] at h; cases h
  | some g =>
    rw [hg] at h
    simp only [Option.bind_some] at h ⊢
    have hlt : g < w.heap.size := by
      rcases Nat.lt_or_ge g w.heap.size with h' | h'
      · exact h'
      · rw [Array.getElem?_eq_none h'] at h; cases h
    rw [hb.block g hlt]
    exact h
/-- A tag that may be written. -/
structure Tg (tg : ByteArray) (kind : Int) (name nm em : ByteArray) (when z : Int) (msg pgp : ByteArray) (ty : ByteArray) : Prop where
  t : Nm40 tg
  k1 : 1 ≤ kind
  k2 : kind ≤ 4
  ky : plumbing_ObjectType_String.f kind = some ty
  ko : spec_ObName.f kind = some ty
  ks : ty.size ≤ 6
  n : name.size ≤ 4096
  w : Who nm em when z
  m : msg.size ≤ 1000000
  p : pgp = ⟨#[]⟩
theorem fits_f (tg name nm em msg pgp : ByteArray) (kind when z : Int) : ∃ b, laws_zzFits24.f tg kind name nm em when z msg pgp = some b ∧ (b = true → tg.size ≤ 2147483647 ∧ name.size ≤ 2147483647 ∧ nm.size ≤ 2147483647 ∧ em.size ≤ 2147483647 ∧ msg.size ≤ 2147483647 ∧ pgp.size ≤ 2147483647) := by
  unfold laws_zzFits24.f laws_zzFits22.f
  by_cases c0 : (tg.size : Int) > 2147483647
  · exact ⟨false, by rw [if_pos c0], fun h => by cases h⟩
  by_cases c1 : (name.size : Int) > 2147483647
  · exact ⟨false, by rw [if_neg c0, if_pos c1], fun h => by cases h⟩
  by_cases c2 : (nm.size : Int) > 2147483647
  · exact ⟨false, by rw [if_neg c0, if_neg c1, if_pos c2]; rfl, fun h => by cases h⟩
  by_cases c3 : (em.size : Int) > 2147483647
  · exact ⟨false, by rw [if_neg c0, if_neg c1, if_neg c2, if_pos c3]; rfl, fun h => by cases h⟩
  by_cases c4 : (msg.size : Int) > 2147483647
  · exact ⟨false, by rw [if_neg c0, if_neg c1, if_neg c2, if_neg c3, Option.bind_some, if_pos rfl, if_pos c4], fun h => by cases h⟩
  by_cases c5 : (pgp.size : Int) > 2147483647
  · exact ⟨false, by rw [if_neg c0, if_neg c1, if_neg c2, if_neg c3, Option.bind_some, if_pos rfl, if_neg c4, if_pos c5], fun h => by cases h⟩
  · exact ⟨true, by rw [if_neg c0, if_neg c1, if_neg c2, if_neg c3, Option.bind_some, if_pos rfl, if_neg c4, if_neg c5], fun _ => by omega⟩
theorem tag_loop (tg name nm em msg pgp : ByteArray) (kind when z : Int) (h0 : tg.size ≤ 2147483647) (h1 : name.size ≤ 2147483647) (h2 : nm.size ≤ 2147483647) (h3 : em.size ≤ 2147483647) (h4 : msg.size ≤ 1000000) (n : Nat) : ∀ i, i + n = msg.size → ∃ b, Ev (fun k => spec_IsTag.l0 k (msg.size : Int) (i : Int) tg kind name nm em when z msg pgp) b ∧ (b = true → ∃ ty, Tg tg kind name nm em when z msg pgp ty) := by
  induction n with
  | succ n ih =>
    intro i h
    have hw : wrap64 ((i : Int) + 1) = ((i + 1 : Nat) : Int) := by unfold wrap64; omega
    obtain ⟨b, hb, hg⟩ := ih (i + 1) (by omega)
    by_cases q : bt msg (i : Int) = 45
    · exact ⟨false, ev_now (fun m => by rw [spec_IsTag.l0, if_pos (by omega), if_pos (by omega), if_pos (by omega), if_pos q]), fun h => by cases h⟩
    · exact ⟨b, ev_round hb (fun m hm => by rw [spec_IsTag.l0, if_pos (by omega), if_pos (by omega), if_pos (by omega), if_neg q, hw]; exact hm), hg⟩
  | zero =>
    intro i h
    obtain ⟨b1, ⟨K1, e1⟩, g1⟩ := name_f tg h0
    obtain ⟨ty, ety⟩ := kind_e kind
    obtain ⟨b3, ⟨K3, e3⟩, g3⟩ := plain_f name h1
    obtain ⟨b4, ⟨K4, e4⟩, g4⟩ := who_f nm em when z h2 h3
    have step : ∀ m, K1 + K3 + K4 ≤ m → spec_IsTag.l0 (m + 1) (msg.size : Int) (i : Int) tg kind name nm em when z msg pgp = some (if b1 = true then (if ty.toList = ([] : List UInt8) then false else if name.toList = ([] : List UInt8) then false else if b3 = true then (if b4 = true then pgp.toList.isEmpty else false) else false) else false) := fun m hm => by
      rw [spec_IsTag.l0, if_neg (by omega), show spec_IsName40.f m tg = _ from e1 m (by omega), Option.bind_some]
      cases b1 with
      | false => rfl
      | true =>
      rw [if_pos rfl, if_pos rfl, ety, Option.bind_some]
      by_cases q1 : ty.toList = ([] : List UInt8)
      · rw [if_pos q1, if_pos q1]
      rw [if_neg q1, if_neg q1]
      by_cases q2 : name.toList = ([] : List UInt8)
      · rw [if_pos q2, if_pos q2]
      rw [if_neg q2, if_neg q2, show spec_IsPlain.f m name = _ from e3 m (by omega), Option.bind_some]
      cases b3 with
      | false => rfl
      | true =>
      rw [if_pos rfl, if_pos rfl, show spec_IsWho.f m nm em when z = _ from e4 m (by omega), Option.bind_some]
      cases b4 <;> rfl
    refine ⟨(if b1 = true then (if ty.toList = ([] : List UInt8) then false else if name.toList = ([] : List UInt8) then false else if b3 = true then (if b4 = true then pgp.toList.isEmpty else false) else false) else false), ⟨K1 + K3 + K4 + 1, fun k hk => ?_⟩, ?_⟩
    · obtain ⟨m, rfl⟩ : ∃ m, k = m + 1 := ⟨k - 1, by omega⟩
      exact step m (by omega)
    · intro hb
      by_cases q0 : b1 = true
      rotate_left
      · rw [if_neg q0] at hb; cases hb
      rw [if_pos q0] at hb
      by_cases q1 : ty.toList = ([] : List UInt8)
      · rw [if_pos q1] at hb; cases hb
      rw [if_neg q1] at hb
      by_cases q2 : name.toList = ([] : List UInt8)
      · rw [if_pos q2] at hb; cases hb
      rw [if_neg q2] at hb
      by_cases q3 : b3 = true
      rotate_left
      · rw [if_neg q3] at hb; cases hb
      rw [if_pos q3] at hb
      by_cases q4 : b4 = true
      rotate_left
      · rw [if_neg q4] at hb; cases hb
      rw [if_pos q4] at hb
      obtain ⟨k1, k2, k3, k4⟩ := kind_f kind ty ety q1
      exact ⟨ty, ⟨g1 q0, k1, k2, k3, ety, k4, g3 q3, g4 q4, h4, ba_ext ((List.isEmpty_iff.1 hb).trans (toList_lit #[]).symm)⟩⟩
theorem tag_f (tg name nm em msg pgp : ByteArray) (kind when z : Int) (h0 : tg.size ≤ 2147483647) (h1 : name.size ≤ 2147483647) (h2 : nm.size ≤ 2147483647) (h3 : em.size ≤ 2147483647) : ∃ b, Ev (fun k => spec_IsTag.f k tg kind name nm em when z msg pgp) b ∧ (b = true → ∃ ty, Tg tg kind name nm em when z msg pgp ty) := by
  by_cases c : (msg.size : Int) > 1000000
  · exact ⟨false, ⟨0, fun k _ => by show spec_IsTag.f k tg kind name nm em when z msg pgp = _; unfold spec_IsTag.f; rw [if_pos c]⟩, fun h => by cases h⟩
  · obtain ⟨b, ⟨K, e⟩, g⟩ := tag_loop tg name nm em msg pgp kind when z h0 h1 h2 h3 (by omega) msg.size 0 (by omega)
    exact ⟨b, ⟨K, fun k hk => by show spec_IsTag.f k tg kind name nm em when z msg pgp = _; unfold spec_IsTag.f; rw [if_neg c]; exact e k hk⟩, g⟩
/-- The text of a tag. -/
def tagTxt (tg ty name nm em : ByteArray) (sec z : Int) (msg : ByteArray) : ByteArray := (⟨#[111, 98, 106, 101, 99, 116, 32]⟩ : ByteArray) ++ tg ++ ⟨#[10, 116, 121, 112, 101, 32]⟩ ++ ty ++ ⟨#[10, 116, 97, 103, 32]⟩ ++ name ++ ⟨#[10, 116, 97, 103, 103, 101, 114, 32]⟩ ++ who nm em sec z ++ ⟨#[10, 10]⟩ ++ msg
theorem text_f {tg name nm em msg pgp ty : ByteArray} {kind when z : Int} (h : Tg tg kind name nm em when z msg pgp ty) : spec_TagText.f tg kind name nm em when z msg pgp = some (tagTxt tg ty name nm em (when + 62135596800) z msg) := by
  have q1 := h.t.1
  have q2 := h.ks
  have q3 := h.n
  have q4 := who_size h.w
  have q5 := h.m
  have l1 : (⟨#[111, 98, 106, 101, 99, 116, 32]⟩ : ByteArray).size = 7 := rfl
  have l2 : (⟨#[10, 116, 121, 112, 101, 32]⟩ : ByteArray).size = 6 := rfl
  have l3 : (⟨#[10, 116, 97, 103, 32]⟩ : ByteArray).size = 5 := rfl
  have l4 : (⟨#[10, 116, 97, 103, 103, 101, 114, 32]⟩ : ByteArray).size = 8 := rfl
  have l5 : (⟨#[10, 10]⟩ : ByteArray).size = 2 := rfl
  unfold spec_TagText.f
  rw [h.ko, whoText_f h.w]
  rw [if_pos (by omega), if_pos (by simp only [ByteArray.size_append]; omega), Option.bind_some]
  rw [if_pos (by simp only [ByteArray.size_append]; omega), if_pos (by simp only [ByteArray.size_append]; omega), if_pos (by simp only [ByteArray.size_append]; omega), if_pos (by simp only [ByteArray.size_append]; omega), Option.bind_some]
  rw [if_pos (by simp only [ByteArray.size_append]; omega), if_pos (by simp only [ByteArray.size_append]; omega), if_pos (by simp only [ByteArray.size_append]; omega)]
  rfl
theorem out_f {tg name nm em msg pgp ty : ByteArray} {kind when z : Int} (h : Tg tg kind name nm em when z msg pgp ty) : tagOut tg ty name nm em (when + 62135596800) z msg pgp = ObjA.nums (tagTxt tg ty name nm em (when + 62135596800) z msg) := by
  unfold tagOut tagTxt
  rw [h.p]
  have e1 : ObjA.nums ⟨#[10, 116, 97, 103, 103, 101, 114, 32]⟩ = ObjA.nums tNl ++ ObjA.nums tTagger := rfl
  have e2 : ObjA.nums ⟨#[10, 10]⟩ = ObjA.nums tNl ++ ObjA.nums tNl := rfl
  have e3 : ObjA.nums ⟨#[]⟩ = [] := rfl
  simp only [ObjA.nums_append, e1, e2, e3, List.nil_append, List.append_nil, List.append_assoc]
  rfl
theorem strOfNums_nums (s : ByteArray) : strOfNums (ObjA.nums s) = s := by
  unfold strOfNums ObjA.nums
  rw [List.map_map]
  have e : ((fun n : Int => UInt8.ofNat n.toNat) ∘ fun c : UInt8 => (c.toNat : Int)) = id := by
    funext c
    simp
  rw [e, List.map_id]
def tag6.T6 : Bool × List (List Nat × List Nat) := (true, [([], []), ([0], [0]), ([1], [1]), ([2, 1], [1, 2]), ([1], [1]), ([4, 1, 1], [1, 4]), ([3, 5, 1], [1, 3, 5]), ([1, 6], [1, 6]), ([7, 5, 0, 1, 2, 3, 4, 5, 6, 7], [7])])
def tag6.B6 : List Nat := [0, 1, 3, 7, 3, 19, 63, 127, 255]
theorem tag6.tab6 : rtab .any (opsOf Tryd.f4 6) = tag6.T6 := by kernel_rfl
theorem tag6.bits6 : waitsOk tag6.T6.2 tag6.B6 = true := by kernel_rfl
set_option maxHeartbeats 16000000 in
set_option maxRecDepth 100000 in
theorem law (x : S32) (w : World) (ev : Value) (aE : Addr) (hT : Lib.TabIs Tryd.prog w "internal/strconv.uint64pow10" .u64 Lib.pow10Tab)
    (hE : w.cell? ⟨1, 0, none⟩ = some (.iface 134 (.pointer (some aE)))) (hE2 : w.cell? ⟨2, 0, none⟩ = some ev) :
    Calls Tryd.prog 4 #[.agg #[.string x.f0, .int .i64 x.f1, .string x.f2, .string x.f3.f0, .string x.f3.f1, .int .i64 x.f3.f2, .int .i64 x.f3.f3, .string x.f4, .string x.f5]] w fun e w' => e = .returned (.bool true) ∧ Below w.heap.size w w' := by
  obtain ⟨tg, kind, name, ⟨nm, em, when, z⟩, msg, pgp⟩ := x
  show Calls Tryd.prog 4 #[.agg #[.string tg, .int .i64 kind, .string name, .string nm, .string em, .int .i64 when, .int .i64 z, .string msg, .string pgp]] w _
  have HW0 : Aside0 (Below w.heap.size w (w.alloc (.cells #[.string tg, .int .i64 kind, .string name, .string nm, .string em, .int .i64 when, .int .i64 z, .string msg, .string pgp] 32))) := ⟨below_alloc (Below.refl _ _) _⟩
  obtain ⟨b, hb, hg⟩ := fits_f tg name nm em msg pgp kind when z
  cases b with
  | false =>
    have HF := Aside0.mk hb
    clear hb hg hT hE hE2
    go_enter Tryd.func4, Tryd.ntmps4
    go_wp2_with (first
      | (go_at_call 11
         (with_reducible refine (laws_zzFits24.calls tg kind name nm em when z msg pgp false _ HF.out).mono ?_)
         rintro x w1 ⟨rfl, hd⟩
         have HD := Aside0.mk hd
         clear hd)
      | fail)
    go_ret
    exact ⟨rfl, HW0.out.trans (HD.out.mono HW0.out.size)⟩
  | true =>
  obtain ⟨g0, g1, g2, g3, g4, g5⟩ := hg rfl
  have HF := Aside0.mk hb
  clear hb hg
  obtain ⟨b, ⟨K, hK⟩, hg⟩ := tag_f tg name nm em msg pgp kind when z g0 g1 g2 g3
  have HI : Aside0 (spec_IsTag.f K tg kind name nm em when z msg pgp = some b) := ⟨hK K (Nat.le_refl _)⟩
  clear hK g0 g1 g2 g3 g4 g5
  cases b with
  | false =>
    clear hg hT hE hE2
    go_enter Tryd.func4, Tryd.ntmps4
    have hbx := blk_new w (.cells #[.string tg, .int .i64 kind, .string name, .string nm, .string em, .int .i64 when, .int .i64 z, .string msg, .string pgp] 32)
    go_wp2_with (first
      | (go_at_call 11
         (with_reducible refine (laws_zzFits24.calls tg kind name nm em when z msg pgp true _ HF.out).mono ?_)
         rintro x w1 ⟨rfl, hd⟩
         have hb1 := (hd.block w.heap.size (blk_lt hbx)).trans hbx
         have c0 : w1.cell? ⟨w.heap.size, 0, none⟩ = some (.string tg) := (blk_cell hb1 0).trans rfl
         have c1 : w1.cell? ⟨w.heap.size, 1, none⟩ = some (.int .i64 kind) := (blk_cell hb1 1).trans rfl
         have c2 : w1.cell? ⟨w.heap.size, 2, none⟩ = some (.string name) := (blk_cell hb1 2).trans rfl
         have c3 : w1.cell? ⟨w.heap.size, 3, none⟩ = some (.string nm) := (blk_cell hb1 3).trans rfl
         have c4 : w1.cell? ⟨w.heap.size, 4, none⟩ = some (.string em) := (blk_cell hb1 4).trans rfl
         have c5 : w1.cell? ⟨w.heap.size, 5, none⟩ = some (.int .i64 when) := (blk_cell hb1 5).trans rfl
         have c6 : w1.cell? ⟨w.heap.size, 6, none⟩ = some (.int .i64 z) := (blk_cell hb1 6).trans rfl
         have c7 : w1.cell? ⟨w.heap.size, 7, none⟩ = some (.string msg) := (blk_cell hb1 7).trans rfl
         have c8 : w1.cell? ⟨w.heap.size, 8, none⟩ = some (.string pgp) := (blk_cell hb1 8).trans rfl
         have HD := Aside0.mk hd
         clear hd hb1)
      | (go_at_call 12
         (with_reducible refine (spec_IsTag.calls K tg kind name nm em when z msg pgp false _ HI.out).mono ?_)
         rintro x w2 ⟨rfl, hd⟩
         have HD2 := Aside0.mk hd
         clear hd)
      | fail)
    go_ret
    exact ⟨rfl, HW0.out.trans ((HD.out.trans (HD2.out.mono HD.out.size)).mono HW0.out.size)⟩
  | true =>
  obtain ⟨ty, ht⟩ := hg rfl
  clear hg
  have HTX := Aside0.mk (text_f ht)
  have ho := out_f ht
  have hsz : (tagTxt tg ty name nm em (when + 62135596800) z msg).size ≤ 2000000 := by
    have q1 := ht.t.1
    have q2 := ht.ks
    have q3 := ht.n
    have q4 := who_size ht.w
    have q5 := ht.m
    have l1 : (⟨#[111, 98, 106, 101, 99, 116, 32]⟩ : ByteArray).size = 7 := rfl
    have l2 : (⟨#[10, 116, 121, 112, 101, 32]⟩ : ByteArray).size = 6 := rfl
    have l3 : (⟨#[10, 116, 97, 103, 32]⟩ : ByteArray).size = 5 := rfl
    have l4 : (⟨#[10, 116, 97, 103, 103, 101, 114, 32]⟩ : ByteArray).size = 8 := rfl
    have l5 : (⟨#[10, 10]⟩ : ByteArray).size = 2 := rfl
    unfold tagTxt
    simp only [ByteArray.size_append]
    omega
  have HEN : Aside0 (∀ W, Below w.heap.size w W → Calls Tryd.prog 13 #[.agg #[.string tg, .int .i64 kind, .string name, .string nm, .string em, .int .i64 when, .int .i64 z, .string msg, .string pgp]] W fun e w' => ∃ B d, e = .returned (.tuple #[.slice B (tagTxt tg ty name nm em (when + 62135596800) z msg).size d, .bool true]) ∧ Kd.C (Kd.int .u8) w' B (tagTxt tg ty name nm em (when + 62135596800) z msg).size (ObjA.nums (tagTxt tg ty name nm em (when + 62135596800) z msg)) ∧ Below W.heap.size W w') := ⟨fun W hW => by
    obtain ⟨k1, k2⟩ := back ht.t
    have h := encodeTag (tv := hb tg) (tg := tg) (name := name) (nm := nm) (em := em) (msg := msg) (pgp := pgp) (ty := ty) (when := when) (sec := when + 62135596800) (nsec := 0) (z := z) (kind := kind) (ev := ev) (aE := aE) W (fun _ _ => rfl) ht.t.1 k2 k1 (fun i _ => hb_range tg i) ht.k1 ht.k2 ht.ky (sig_f nm em when z ht.w.w0 ht.w.w1) (by have := ht.w.w0; omega) (by have := ht.w.w1; omega) ht.w.zm ht.w.z0 ht.w.z1 (by rw [ho, ObjA.nums_len]; omega) (fun W1 hb => tab_below hT (hW.trans (hb.mono hW.size))) (pw_cell_below hW hE) (pw_cell_below hW hE2)
    rw [ho, ObjA.nums_len] at h
    refine h.mono ?_
    rintro e w' ⟨B, d, rfl, h1, h2, h3⟩
    exact ⟨B, d, rfl, h2, h3⟩⟩
  have HSZ := Aside0.mk hsz
  obtain ⟨T, hTT⟩ : ∃ T, T = tagTxt tg ty name nm em (when + 62135596800) z msg := ⟨_, rfl⟩
  rw [← hTT] at HTX HEN HSZ
  obtain ⟨n, hn⟩ : ∃ n, n = T.size := ⟨_, rfl⟩
  rw [← hn] at HEN
  have HN := Aside0.mk hn
  clear ht ho hsz hTT hT hE hE2 hn
  go_enter Tryd.func4, Tryd.ntmps4
  have hbx := blk_new w (.cells #[.string tg, .int .i64 kind, .string name, .string nm, .string em, .int .i64 when, .int .i64 z, .string msg, .string pgp] 32)
  go_upto_region 6 with (first
    | (go_at_call 11
       (with_reducible refine (laws_zzFits24.calls tg kind name nm em when z msg pgp true _ HF.out).mono ?_)
       rintro x w1 ⟨rfl, hd⟩
       have hb1 := (hd.block w.heap.size (blk_lt hbx)).trans hbx
       have c0 := (blk_cell hb1 0).trans (show _ = some (.string tg) from rfl)
       have c1 := (blk_cell hb1 1).trans (show _ = some (.int .i64 kind) from rfl)
       have c2 := (blk_cell hb1 2).trans (show _ = some (.string name) from rfl)
       have c3 := (blk_cell hb1 3).trans (show _ = some (.string nm) from rfl)
       have c4 := (blk_cell hb1 4).trans (show _ = some (.string em) from rfl)
       have c5 := (blk_cell hb1 5).trans (show _ = some (.int .i64 when) from rfl)
       have c6 := (blk_cell hb1 6).trans (show _ = some (.int .i64 z) from rfl)
       have c7 := (blk_cell hb1 7).trans (show _ = some (.string msg) from rfl)
       have c8 := (blk_cell hb1 8).trans (show _ = some (.string pgp) from rfl)
       have HB1 := Aside0.mk hb1
       have HD := Aside0.mk (HW0.out.trans (hd.mono HW0.out.size))
       clear hd hb1)
    | (go_at_call 12
       (with_reducible refine (spec_IsTag.calls K tg kind name nm em when z msg pgp true _ HI.out).mono ?_)
       rintro x w2 ⟨rfl, hd⟩
       have hb1 := (hd.block w.heap.size (blk_lt HB1.out)).trans HB1.out
       have c0 := (blk_cell hb1 0).trans (show _ = some (.string tg) from rfl)
       have c1 := (blk_cell hb1 1).trans (show _ = some (.int .i64 kind) from rfl)
       have c2 := (blk_cell hb1 2).trans (show _ = some (.string name) from rfl)
       have c3 := (blk_cell hb1 3).trans (show _ = some (.string nm) from rfl)
       have c4 := (blk_cell hb1 4).trans (show _ = some (.string em) from rfl)
       have c5 := (blk_cell hb1 5).trans (show _ = some (.int .i64 when) from rfl)
       have c6 := (blk_cell hb1 6).trans (show _ = some (.int .i64 z) from rfl)
       have c7 := (blk_cell hb1 7).trans (show _ = some (.string msg) from rfl)
       have c8 := (blk_cell hb1 8).trans (show _ = some (.string pgp) from rfl)
       have HB2 := Aside0.mk hb1
       have HD2 := Aside0.mk (HD.out.trans (hd.mono HD.out.size))
       clear hd hb1)
    | (go_at_call 13
       (with_reducible refine (HEN.out _ HD2.out).mono ?_)
       rintro x w3 ⟨B, d, rfl, hC, hd⟩
       have HB3 := Aside0.mk ((hd.block w.heap.size (blk_lt HB2.out)).trans HB2.out)
       have HD3 := Aside0.mk (HD2.out.trans (hd.mono HD2.out.size))
       have HC3 := Aside0.mk hC
       clear hd hC)
    | fail)
  clear hbx HB1 HB2 HD HD2 HEN HF HI
  obtain ⟨gb, hgb⟩ : ∃ gb, gb = w.heap.size := ⟨_, rfl⟩
  rw [← hgb] at HB3
  simp only [← hgb]
  clear hgb
  have HCV : Aside0 (∀ W, Below w3.heap.size w3 W → (convert 24 9 (.slice B n d)).run Tryd.prog W = .ok (.string T) W) := ⟨fun W hb => (Kd.C_string (P := Tryd.prog) (A := B) (c := d) Tryd.underlying24 Tryd.underlying5 Tryd.underlying9 (Kd.C_below HC3.out hb)).trans (by rw [strOfNums_nums])⟩
  have q0 : Below w3.heap.size w3 w3.drew := below_drew1 (Below.refl _ _)
  have q1 : w3.drew.cell? ⟨gb, 0, none⟩ = some (.string tg) := (blk_cell HB3.out 0).trans rfl
  have q2 : w3.drew.cell? ⟨gb, 1, none⟩ = some (.int .i64 kind) := (blk_cell HB3.out 1).trans rfl
  have q3 : w3.drew.cell? ⟨gb, 2, none⟩ = some (.string name) := (blk_cell HB3.out 2).trans rfl
  have q4 : w3.drew.cell? ⟨gb, 3, none⟩ = some (.string nm) := (blk_cell HB3.out 3).trans rfl
  have q5 : w3.drew.cell? ⟨gb, 4, none⟩ = some (.string em) := (blk_cell HB3.out 4).trans rfl
  have q6 : w3.drew.cell? ⟨gb, 5, none⟩ = some (.int .i64 when) := (blk_cell HB3.out 5).trans rfl
  have q7 : w3.drew.cell? ⟨gb, 6, none⟩ = some (.int .i64 z) := (blk_cell HB3.out 6).trans rfl
  have q8 : w3.drew.cell? ⟨gb, 7, none⟩ = some (.string msg) := (blk_cell HB3.out 7).trans rfl
  have q9 : w3.drew.cell? ⟨gb, 8, none⟩ = some (.string pgp) := (blk_cell HB3.out 8).trans rfl
  have q10 : (convert 24 9 (.slice B n d)).run Tryd.prog w3.drew = .ok (.string T) w3.drew := HCV.out _ (below_drew1 (Below.refl _ _))
  clear HB3 HC3
  refine start_ (n := 9) (S := fun w' => Below w3.heap.size w3 w' ∧ w'.cell? ⟨gb, 0, none⟩ = some (.string tg) ∧ w'.cell? ⟨gb, 1, none⟩ = some (.int .i64 kind) ∧ w'.cell? ⟨gb, 2, none⟩ = some (.string name) ∧ w'.cell? ⟨gb, 3, none⟩ = some (.string nm) ∧ w'.cell? ⟨gb, 4, none⟩ = some (.string em) ∧ w'.cell? ⟨gb, 5, none⟩ = some (.int .i64 when) ∧ w'.cell? ⟨gb, 6, none⟩ = some (.int .i64 z) ∧ w'.cell? ⟨gb, 7, none⟩ = some (.string msg) ∧ w'.cell? ⟨gb, 8, none⟩ = some (.string pgp) ∧ (convert 24 9 (.slice B n d)).run Tryd.prog w' = .ok (.string T) w') (ds := []) #[false, false, false, false, false, false, false, false, false] (by kernel_rfl) rfl rfl ⟨q0, q1, q2, q3, q4, q5, q6, q7, q8, q9, q10⟩ (fun hHeld => ?_)
  refine with_tabW tag6.tab6 tag6.bits6 (fun HT_ HW_ => ?_)
  generalize World.drew _ = wd at hHeld ⊢
  refine pure_ (i := 0) (N := some 16) (v := ?_) (a' := ?_) #[true, false, false, false, false, false, false, false, false] rfl rfl (any_of HT_.out (by kernel_rfl)) (fun _ _ _ h => h) (Or.inl ⟨by rfl, ?_⟩) ?_ ?_
  rotate_left
  · intro w'
    go_simp
    with_reducible rfl
  rotate_left
  · simp only [Act.put, List.setIfInBounds_toArray, List.set_cons_zero, List.set_cons_succ, i64_w, i32_w]
    rfl
  refine pure_ (i := 1) (N := some 17) (v := ?_) (a' := ?_) #[true, true, false, false, false, false, false, false, false] rfl rfl (any_of HT_.out (by kernel_rfl)) (fun _ _ _ h => h) (Or.inl ⟨by rfl, ?_⟩) ?_ ?_
  rotate_left
  · intro w'
    go_simp
    with_reducible rfl
  rotate_left
  · simp only [Act.put, List.setIfInBounds_toArray, List.set_cons_zero, List.set_cons_succ, i64_w, i32_w]
    rfl
  refine pure_ (i := 2) (N := some 18) (v := ?_) (a' := ?_) #[true, true, true, false, false, false, false, false, false] rfl rfl (any_of HT_.out (by kernel_rfl)) (fun _ _ _ h => h) (Or.inl ⟨by rfl, ?_⟩) ?_ ?_
  rotate_left
  · intro w'
    go_simp
    with_reducible rfl
  rotate_left
  · simp only [Act.put, List.setIfInBounds_toArray, List.set_cons_zero, List.set_cons_succ, i64_w, i32_w]
    rfl
  refine take_ (i := 3) (N := some 19) (v := ?_) (a' := ?_) #[true, true, true, true, false, false, false, false, false] rfl rfl (take_ofW HT_.out HW_.out (by kernel_rfl)) (fun _ _ _ h => h) (Or.inl ⟨by rfl, ?_⟩) hHeld ?_ ?_
  rotate_left
  · rintro w' ⟨s0, s1, s2, s3, s4, s5, s6, s7, s8, s9, s10⟩
    go_simp
    with_reducible rfl
  rotate_left
  · simp only [Act.put, List.setIfInBounds_toArray, List.set_cons_zero, List.set_cons_succ, i64_w, i32_w]
    rfl
  refine take_ (i := 4) (N := some 20) (v := ?_) (a' := ?_) #[true, true, true, true, true, false, false, false, false] rfl rfl (take_ofW HT_.out HW_.out (by kernel_rfl)) (fun _ _ _ h => h) (Or.inl ⟨by rfl, ?_⟩) hHeld ?_ ?_
  rotate_left
  · rintro w' ⟨s0, s1, s2, s3, s4, s5, s6, s7, s8, s9, s10⟩
    go_simp
    with_reducible rfl
  rotate_left
  · simp only [Act.put, List.setIfInBounds_toArray, List.set_cons_zero, List.set_cons_succ, i64_w, i32_w]
    rfl
  refine one_ (i := 5) (N := some 21) #[true, true, true, true, true, true, false, false, false] rfl rfl (one_of HT_.out (by kernel_rfl)) (by decide) (fun K hK => ?_)
  refine goes_ Tryd.func14 (by kernel_rfl) rfl #[.agg #[.string tg, .int .i64 kind, .string name, .string nm, .string em, .int .i64 when, .int .i64 z, .string msg, .string pgp]] (by rfl) rfl rfl (by simp only [List.map_toArray, List.map_cons, List.map_nil]; rfl) ?_
  with_reducible refine ((spec_TagText.calls tg kind name nm em when z msg pgp T _ HTX.out)).mono ?_
  rintro e w7 ⟨rfl, hb7⟩
  refine ⟨_, rfl, ?_⟩
  refine hK.out _ _ ⟨(hHeld.1.trans (hb7.mono hHeld.1.size)), (pw_cell_below hb7 hHeld.2.1), (pw_cell_below hb7 hHeld.2.2.1), (pw_cell_below hb7 hHeld.2.2.2.1), (pw_cell_below hb7 hHeld.2.2.2.2.1), (pw_cell_below hb7 hHeld.2.2.2.2.2.1), (pw_cell_below hb7 hHeld.2.2.2.2.2.2.1), (pw_cell_below hb7 hHeld.2.2.2.2.2.2.2.1), (pw_cell_below hb7 hHeld.2.2.2.2.2.2.2.2.1), (pw_cell_below hb7 hHeld.2.2.2.2.2.2.2.2.2.1), (HCV.out _ (hHeld.1.trans (hb7.mono hHeld.1.size)))⟩ (fun hHeld => ?_)
  clear hK K
  refine norm_ (a' := ?_) ?_ ?_
  rotate_left
  · show Act.put _ (some 21) _ = _
    simp only [Act.put, List.setIfInBounds_toArray, List.set_cons_zero, List.set_cons_succ, i64_w, i32_w]
    rfl
  refine pure_ (i := 6) (N := some 22) (v := ?_) (a' := ?_) #[true, true, true, true, true, true, true, false, false] rfl rfl (any_of HT_.out (by kernel_rfl)) (fun _ _ _ h => h) (Or.inl ⟨by rfl, ?_⟩) ?_ ?_
  rotate_left
  · intro w'
    go_simp
    with_reducible rfl
  rotate_left
  · simp only [Act.put, List.setIfInBounds_toArray, List.set_cons_zero, List.set_cons_succ, i64_w, i32_w]
    rfl
  refine pure_ (i := 7) (N := some 23) (v := ?_) (a' := ?_) #[true, true, true, true, true, true, true, true, false] rfl rfl (any_of HT_.out (by kernel_rfl)) (fun _ _ _ h => h) (Or.inl ⟨by rfl, ?_⟩) ?_ ?_
  rotate_left
  · intro w'
    go_simp
    with_reducible rfl
  rotate_left
  · simp only [Act.put, List.setIfInBounds_toArray, List.set_cons_zero, List.set_cons_succ, i64_w, i32_w]
    rfl
  refine pure_ (i := 8) (N := some 2) (v := ?_) (a' := ?_) #[true, true, true, true, true, true, true, true, true] rfl rfl (any_of HT_.out (by kernel_rfl)) (fun _ _ _ h => h) (Or.inl ⟨by rfl, ?_⟩) ?_ ?_
  rotate_left
  · intro w'
    go_simp
    with_reducible rfl
  rotate_left
  · simp only [Act.put, List.setIfInBounds_toArray, List.set_cons_zero, List.set_cons_succ, i64_w, i32_w]
    rfl
  refine done_ (done_of HT_.out (by kernel_rfl)) ?_
  have HFF := Aside0.mk (HD3.out.trans (hHeld.1.mono HD3.out.size))
  clear hHeld
  go_wp2
  go_ret
  exact ⟨rfl, HFF.out⟩
end Go.Proofs.YtddnepddilbikaaDoor.WalkT
