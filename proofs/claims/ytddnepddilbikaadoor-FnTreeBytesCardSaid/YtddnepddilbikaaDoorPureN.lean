/- Names of objects, people, kinds: what the specification's guards say. Plain. -/
import Derived.Test.YtddnepddilbikaaDoorObjD
import Derived.Test.YtddnepddilbikaaDoorTxt
import Derived.Test.YtddnepddilbikaaDoorQAllx6
import Derived.Lib.HexFns
import Derived.Lib.HexFns2
import Derived.Lib.ItoaMem
import Derived.Lib.ItoaLen
set_option linter.unusedVariables false
set_option linter.unusedSimpArgs false
namespace Go.Proofs.YtddnepddilbikaaDoor.PureN
open Go.RowKit Go.Proofs.YtddnepddilbikaaDoorW.PrintLast Go.Proofs.YtddnepddilbikaaDoorW.PrintMore Go.Proofs.YtddnepddilbikaaDoor.QAll Txt SrtL ObjC ObjD Go.Lib
open Go.Proofs.YtddnepddilbikaaDoorW.PrintWords hiding nums
/-- A small hexadecimal digit. -/
def Dig (c : UInt8) : Prop := (48 ≤ c.toNat ∧ c.toNat ≤ 57) ∨ (97 ≤ c.toNat ∧ c.toNat ≤ 102)
set_option maxRecDepth 100000 in
theorem dig_fin : ∀ n : Fin 256, ((48 ≤ n.val ∧ n.val ≤ 57) ∨ (97 ≤ n.val ∧ n.val ≤ 102)) → (Hx.rev.data.toList[n.val]?.getD 255).toNat ≤ 15 ∧ (Hx.tab.data.toList[(Hx.rev.data.toList[n.val]?.getD 255).toNat]?.getD 0).toNat = n.val := by decide
theorem dig {c : UInt8} (h : Dig c) : Hx.v c ≤ 15 ∧ Hx.digit (Hx.v c) = c := by
  have := dig_fin ⟨c.toNat, c.toNat_lt⟩ h
  refine ⟨this.1, ?_⟩
  apply UInt8.toNat_inj.1
  exact this.2
theorem enc_dec : ∀ (n : Nat) (l : List UInt8), l.length = 2 * n → (∀ c ∈ l, Dig c) → Hx.encode (Hx.decode l).1 = l ∧ (Hx.decode l).2 = .ok ∧ (Hx.decode l).1.length = n
  | 0, l, h, _ => by
    have : l = [] := List.eq_nil_of_length_eq_zero (by omega)
    subst this
    rw [Hx.decode_nil]
    exact ⟨rfl, rfl, rfl⟩
  | n + 1, [], h, _ => by simp at h
  | n + 1, [c], h, _ => by simp at h; omega
  | n + 1, p :: q :: t, h, hd => by
    obtain ⟨hp1, hp2⟩ := dig (hd p (by simp))
    obtain ⟨hq1, hq2⟩ := dig (hd q (by simp))
    obtain ⟨e1, e2, e3⟩ := enc_dec n t (by simp at h; omega) (fun c hc => hd c (by simp [hc]))
    rw [Hx.decode_two, if_neg (by omega), if_neg (by omega)]
    have hb : (UInt8.ofNat (Hx.v p * 16 + Hx.v q)).toNat = Hx.v p * 16 + Hx.v q := by
      rw [UInt8.toNat_ofNat', Nat.mod_eq_of_lt (by omega)]
    refine ⟨?_, e2, by simp [e3]⟩
    rw [Hx.encode_cons, hb, e1, show (Hx.v p * 16 + Hx.v q) / 16 = Hx.v p by omega, show (Hx.v p * 16 + Hx.v q) % 16 = Hx.v q by omega, hp2, hq2]
theorem data_length (s : ByteArray) : s.data.toList.length = s.size := by rw [Lib.size_eq]
theorem has_loop (s : ByteArray) (c : Int) (hl : s.size ≤ 2147483647) (n : Nat) : ∀ i, i + n = s.size → ∃ b, Ev (fun k => spec_Has.l0 k s c (s.size : Int) (i : Int)) b := by
  induction n with
  | zero =>
    intro i h
    exact ⟨false, ev_now (fun m => by rw [spec_Has.l0, if_neg (by omega)])⟩
  | succ n ih =>
    intro i h
    have hw : wrap64 ((i : Int) + 1) = ((i + 1 : Nat) : Int) := by unfold wrap64; omega
    obtain ⟨b, hb⟩ := ih (i + 1) (by omega)
    by_cases q : bt s (i : Int) = c
    · exact ⟨true, ev_now (fun m => by rw [spec_Has.l0, if_pos (by omega), if_pos (by omega), if_pos (by omega), if_pos q])⟩
    · exact ⟨b, ev_round hb (fun m hm => by rw [spec_Has.l0, if_pos (by omega), if_pos (by omega), if_pos (by omega), if_neg q, hw]; exact hm)⟩
theorem has_f (s : ByteArray) (c : Int) (hl : s.size ≤ 2147483647) : ∃ b, Ev (fun k => spec_Has.f k s c) b := has_loop s c hl s.size 0 (by omega)
theorem name_loop (s : ByteArray) (hl : s.size ≤ 2147483647) (n : Nat) : ∀ i, i + n = s.size → ∃ b, Ev (fun k => spec_IsName40.l0 k s (s.size : Int) (i : Int)) b ∧ (b = true → s.size = 40 ∧ ∀ j : Nat, i ≤ j → j < s.size → (48 ≤ bt s (j : Int) ∧ bt s (j : Int) ≤ 57) ∨ (97 ≤ bt s (j : Int) ∧ bt s (j : Int) ≤ 102)) := by
  induction n with
  | zero =>
    intro i h
    refine ⟨(s.size : Int) == 40, ev_now (fun m => by rw [spec_IsName40.l0, if_neg (by omega)]), fun hb => ⟨by rw [beq_iff_eq] at hb; omega, fun j h1 h2 => by omega⟩⟩
  | succ n ih =>
    intro i h
    have hw : wrap64 ((i : Int) + 1) = ((i + 1 : Nat) : Int) := by unfold wrap64; omega
    obtain ⟨b, hb, hb2⟩ := ih (i + 1) (by omega)
    have good : (48 ≤ bt s (i : Int) ∧ bt s (i : Int) ≤ 57) ∨ (97 ≤ bt s (i : Int) ∧ bt s (i : Int) ≤ 102) → b = true → s.size = 40 ∧ ∀ j : Nat, i ≤ j → j < s.size → (48 ≤ bt s (j : Int) ∧ bt s (j : Int) ≤ 57) ∨ (97 ≤ bt s (j : Int) ∧ bt s (j : Int) ≤ 102) := fun hg hq => by
      refine ⟨(hb2 hq).1, fun j h1 h2 => ?_⟩
      by_cases e : j = i
      · rw [e]; exact hg
      · exact (hb2 hq).2 j (by omega) h2
    by_cases q1 : bt s (i : Int) ≥ 48
    · by_cases q2 : bt s (i : Int) ≤ 57
      · exact ⟨b, ev_round hb (fun m hm => by rw [spec_IsName40.l0, if_pos (by omega), if_pos (by omega), if_pos (by omega), if_pos q1, if_pos q2, hw]; exact hm), good (Or.inl ⟨q1, q2⟩)⟩
      · by_cases q3 : bt s (i : Int) ≥ 97
        · by_cases q4 : bt s (i : Int) ≤ 102
          · exact ⟨b, ev_round hb (fun m hm => by rw [spec_IsName40.l0, if_pos (by omega), if_pos (by omega), if_pos (by omega), if_pos q1, if_neg q2, if_pos q3, if_pos q4, hw]; exact hm), good (Or.inr ⟨q3, q4⟩)⟩
          · exact ⟨false, ev_now (fun m => by rw [spec_IsName40.l0, if_pos (by omega), if_pos (by omega), if_pos (by omega), if_pos q1, if_neg q2, if_pos q3, if_neg q4]), fun z => by cases z⟩
        · exact ⟨false, ev_now (fun m => by rw [spec_IsName40.l0, if_pos (by omega), if_pos (by omega), if_pos (by omega), if_pos q1, if_neg q2, if_neg q3]), fun z => by cases z⟩
    · exact ⟨false, ev_now (fun m => by rw [spec_IsName40.l0, if_pos (by omega), if_pos (by omega), if_pos (by omega), if_neg q1, if_neg (by omega)]), fun z => by cases z⟩
/-- The name of an object. -/
def Nm40 (s : ByteArray) : Prop := s.size = 40 ∧ ∀ c ∈ s.data.toList, Dig c
theorem name_f (s : ByteArray) (hl : s.size ≤ 2147483647) : ∃ b, Ev (fun k => spec_IsName40.f k s) b ∧ (b = true → Nm40 s) := by
  obtain ⟨b, hb, hq⟩ := name_loop s hl s.size 0 (by omega)
  refine ⟨b, hb, fun h => ⟨(hq h).1, fun c hc => ?_⟩⟩
  obtain ⟨j, hj, e⟩ := List.mem_iff_getElem.1 hc
  have hjs : j < s.size := by rw [← data_length]; exact hj
  have h1 : s.toList[j]? = some c := by rw [Lib.toList_data, List.getElem?_eq_getElem hj, e]
  have h2 := bt_get s j c h1
  have h3 := (hq h).2 j (Nat.zero_le _) hjs
  rw [h2] at h3
  unfold Dig
  omega
theorem back {s : ByteArray} (h : Nm40 s) : s = hexOf (hb s) ∧ (dec s).length = 20 := by
  obtain ⟨e1, _, e3⟩ := enc_dec 20 s.data.toList (by rw [data_length]; exact h.1) h.2
  have hl : (dec s).length = 20 := e3
  refine ⟨?_, hl⟩
  have e4 : Lib.bytesOf ((List.range 20).map (hb s)) = dec s := by
    show List.map (fun n : Int => UInt8.ofNat n.toNat) (List.map (hb s) (List.range 20)) = dec s
    refine List.ext_getElem (by simp [hl]) (fun i h1 h2 => ?_)
    rw [List.getElem_map, List.getElem_map, List.getElem_range]
    unfold hb
    rw [List.getElem?_eq_getElem h2]
    simp
  unfold hexOf
  rw [e4]
  show s = (⟨(Hx.encode (Hx.decode s.data.toList).1).toArray⟩ : ByteArray)
  rw [e1]
theorem hb_range (s : ByteArray) (i : Nat) : 0 ≤ hb s i ∧ hb s i < 256 := by
  unfold hb
  have := ((dec s)[i]?.getD 0).toNat_lt
  omega
theorem plain0 (s : ByteArray) (hl : s.size ≤ 2147483647) (t : Bool) : ∃ b, Ev (fun k => spec_IsPlain.j0 k s t) b := by
  cases t with
  | true => exact ⟨false, ev_now (fun m => by rw [spec_IsPlain.j0, if_pos rfl])⟩
  | false =>
  obtain ⟨b1, K1, e1⟩ := has_f s 60 hl
  obtain ⟨b2, K2, e2⟩ := has_f s 62 hl
  obtain ⟨b3, K3, e3⟩ := has_f s 10 hl
  obtain ⟨b4, K4, e4⟩ := has_f s 0 hl
  refine ⟨(if b1 = true then false else if b2 = true then false else if b3 = true then false else !b4), K1 + K2 + K3 + K4 + 1, fun n hn => ?_⟩
  · obtain ⟨m, rfl⟩ : ∃ m, n = m + 1 := ⟨n - 1, by omega⟩
    show spec_IsPlain.j0 (m + 1) s false = _
    rw [spec_IsPlain.j0, if_neg (by simp), show spec_Has.f m s 60 = _ from e1 m (by omega), show spec_Has.f m s 62 = _ from e2 m (by omega), show spec_Has.f m s 10 = _ from e3 m (by omega), show spec_Has.f m s 0 = _ from e4 m (by omega)]
    cases b1 <;> cases b2 <;> cases b3 <;> cases b4 <;> rfl
theorem plain_f (s : ByteArray) (hl : s.size ≤ 2147483647) : ∃ b, Ev (fun k => spec_IsPlain.f k s) b ∧ (b = true → s.size ≤ 4096) := by
  by_cases q0 : (s.size : Int) > 4096
  · exact ⟨false, ⟨0, fun k _ => by show spec_IsPlain.f k s = _; unfold spec_IsPlain.f; rw [if_pos q0]⟩, fun z => by cases z⟩
  · obtain ⟨b1, K1, h1⟩ := plain0 s hl true
    obtain ⟨b2, K2, h2⟩ := plain0 s hl false
    by_cases q1 : s.toList = ([] : List UInt8)
    · exact ⟨b2, ⟨K2, fun k hk => by show spec_IsPlain.f k s = _; unfold spec_IsPlain.f; rw [if_neg q0, if_pos q1]; exact h2 k hk⟩, fun _ => by omega⟩
    · have hp : 0 < s.size := by
        rw [← size_list]
        exact List.length_pos_iff.2 q1
      have hw : wrap64 ((s.size : Int) - 1) = (s.size : Int) - 1 := w64 _ (by omega) (by omega)
      by_cases q2 : bt s 0 = 32
      · exact ⟨b1, ⟨K1, fun k hk => by show spec_IsPlain.f k s = _; unfold spec_IsPlain.f; rw [if_neg q0, if_neg q1, if_pos (by omega), if_pos q2]; exact h1 k hk⟩, fun _ => by omega⟩
      · cases q3 : (bt s (wrap64 ((s.size : Int) - 1)) == 32)
        · exact ⟨b2, ⟨K2, fun k hk => by show spec_IsPlain.f k s = _; unfold spec_IsPlain.f; rw [if_neg q0, if_neg q1, if_pos (by omega), if_neg q2, if_pos (by rw [hw]; omega), if_pos (by rw [hw]; omega), q3]; exact h2 k hk⟩, fun _ => by omega⟩
        · exact ⟨b1, ⟨K1, fun k hk => by show spec_IsPlain.f k s = _; unfold spec_IsPlain.f; rw [if_neg q0, if_neg q1, if_pos (by omega), if_neg q2, if_pos (by rw [hw]; omega), if_pos (by rw [hw]; omega), q3]; exact h1 k hk⟩, fun _ => by omega⟩
/-- Someone who may be written. -/
structure Who (nm em : ByteArray) (when z : Int) : Prop where
  n : nm.size ≤ 4096
  e : em.size ≤ 4096
  w0 : 0 ≤ when
  w1 : when < 1099511627776
  zm : z.tmod 60 = 0
  z0 : -360000 < z
  z1 : z < 360000
theorem who_f (nm em : ByteArray) (when z : Int) (h1 : nm.size ≤ 2147483647) (h2 : em.size ≤ 2147483647) : ∃ b, Ev (fun k => spec_IsWho.f k nm em when z) b ∧ (b = true → Who nm em when z) := by
  obtain ⟨b1, ⟨K1, e1⟩, g1⟩ := plain_f nm h1
  obtain ⟨b2, ⟨K2, e2⟩, g2⟩ := plain_f em h2
  cases b1 with
  | false => exact ⟨false, ⟨K1, fun k hk => by show spec_IsWho.f k nm em when z = _; unfold spec_IsWho.f; rw [show spec_IsPlain.f k nm = _ from e1 k hk]; rfl⟩, fun z => by cases z⟩
  | true =>
  cases b2 with
  | false => exact ⟨false, ⟨K1 + K2, fun k hk => by show spec_IsWho.f k nm em when z = _; unfold spec_IsWho.f; rw [show spec_IsPlain.f k nm = _ from e1 k (by omega), show spec_IsPlain.f k em = _ from e2 k (by omega)]; rfl⟩, fun z => by cases z⟩
  | true =>
  have hk : ∀ k, K1 + K2 ≤ k → spec_IsWho.f k nm em when z = (if when < 0 then (some false) else (if when ≥ 1099511627776 then (some false) else (if (Int.tmod z 60) = 0 then (if z > (-360000) then (if z < 360000 then (if z ≥ 0 then (some true) else (some (decide (z ≤ (-3600))))) else (some false)) else (some false)) else (some false)))) := fun k hk => by
    unfold spec_IsWho.f
    rw [show spec_IsPlain.f k nm = _ from e1 k (by omega), show spec_IsPlain.f k em = _ from e2 k (by omega)]
    rfl
  have fin : ∀ b, (if when < 0 then (some false) else (if when ≥ 1099511627776 then (some false) else (if (Int.tmod z 60) = 0 then (if z > (-360000) then (if z < 360000 then (if z ≥ 0 then (some true) else (some (decide (z ≤ (-3600))))) else (some false)) else (some false)) else (some false)))) = some b → (b = true → Who nm em when z) → ∃ b, Ev (fun k => spec_IsWho.f k nm em when z) b ∧ (b = true → Who nm em when z) := fun b e g => ⟨b, ⟨K1 + K2, fun k h => (hk k h).trans e⟩, g⟩
  by_cases c0 : when < 0
  · exact fin false (by rw [if_pos c0]) (fun z => by cases z)
  by_cases c1 : when ≥ 1099511627776
  · exact fin false (by rw [if_neg c0, if_pos c1]) (fun z => by cases z)
  by_cases c2 : Int.tmod z 60 = 0
  rotate_left
  · exact fin false (by rw [if_neg c0, if_neg c1, if_neg c2]) (fun z => by cases z)
  by_cases c3 : z > (-360000)
  rotate_left
  · exact fin false (by rw [if_neg c0, if_neg c1, if_pos c2, if_neg c3]) (fun z => by cases z)
  by_cases c4 : z < 360000
  rotate_left
  · exact fin false (by rw [if_neg c0, if_neg c1, if_pos c2, if_pos c3, if_neg c4]) (fun z => by cases z)
  have good : Who nm em when z := ⟨g1 rfl, g2 rfl, by omega, by omega, c2, by omega, c4⟩
  by_cases c5 : z ≥ 0
  · exact fin true (by rw [if_neg c0, if_neg c1, if_pos c2, if_pos c3, if_pos c4, if_pos c5]) (fun _ => good)
  · exact fin _ (by rw [if_neg c0, if_neg c1, if_pos c2, if_pos c3, if_pos c4, if_neg c5]) (fun _ => good)
/-- The kinds. -/
theorem kind_f (kind : Int) (ty : ByteArray) (h : spec_ObName.f kind = some ty) (hn : ty.toList ≠ []) : 1 ≤ kind ∧ kind ≤ 4 ∧ plumbing_ObjectType_String.f kind = some ty ∧ ty.size ≤ 6 := by
  unfold spec_ObName.f at h
  split at h
  · rename_i e
    subst e
    obtain rfl := Option.some.inj h
    exact ⟨by omega, by omega, rfl, by decide⟩
  split at h
  · rename_i e
    subst e
    obtain rfl := Option.some.inj h
    exact ⟨by omega, by omega, rfl, by decide⟩
  split at h
  · rename_i e
    subst e
    obtain rfl := Option.some.inj h
    exact ⟨by omega, by omega, rfl, by decide⟩
  split at h
  · rename_i e
    subst e
    obtain rfl := Option.some.inj h
    exact ⟨by omega, by omega, rfl, by decide⟩
  · obtain rfl := Option.some.inj h
    exact absurd (by rw [toList_lit]) hn
theorem kind_e (kind : Int) : ∃ ty, spec_ObName.f kind = some ty := by
  unfold spec_ObName.f
  repeat' split
  all_goals exact ⟨_, rfl⟩
theorem sig_f (nm em : ByteArray) (when z : Int) (h0 : 0 ≤ when) (h1 : when < 1099511627776) : impl_signatureOf.f nm em when z = some (nm, em, when + 62135596800, 0, z) := by
  have e0 : Int.tmod 0 1000000000 = 0 := by decide
  have e1 : Int.tdiv 0 1000000000 = 0 := by decide
  have w0 : wrap64 0 = 0 := by unfold wrap64; omega
  have w1 : wrap64 (when + 0) = when := by unfold wrap64; omega
  have w2 : wrap64 (when + 62135596800) = when + 62135596800 := by unfold wrap64; omega
  unfold impl_signatureOf.f zztime_Unix.f zztime_FixedZone.f zztime_Time_In.f
  rw [e0, e1, w0, w1, w2, if_neg (by decide)]
  rfl
theorem two_fin : ∀ n : Fin 100, spec_two.f (n.val : Int) = some (tw n.val) := by decide +kernel
theorem two_f (n : Int) (m : Nat) (h : n = (m : Int)) (hm : m < 100) : spec_two.f n = some (tw m) := by
  subst h
  exact two_fin ⟨m, hm⟩
theorem quot (n : Nat) (hn : n < 360000) : wrap64 (Int.tdiv (n : Int) 3600) = ((n / 3600 : Nat) : Int) ∧ Int.tmod (wrap64 (Int.tdiv (n : Int) 60)) 60 = ((n / 60 % 60 : Nat) : Int) := by
  have d1 : Int.tdiv (n : Int) 3600 = ((n / 3600 : Nat) : Int) := (Int.ofNat_tdiv n 3600).symm
  have d2 : Int.tdiv (n : Int) 60 = ((n / 60 : Nat) : Int) := (Int.ofNat_tdiv n 60).symm
  have d3 : ∀ m : Nat, Int.tmod (m : Int) 60 = ((m % 60 : Nat) : Int) := fun m => (Int.ofNat_tmod m 60).symm
  have h1 : n / 3600 ≤ n := Nat.div_le_self _ _
  have h2 : n / 60 ≤ n := Nat.div_le_self _ _
  refine ⟨?_, ?_⟩
  · rw [d1]
    generalize n / 3600 = q at h1
    exact w64 _ (by omega) (by omega)
  · rw [d2, w64 _ (by omega) (by generalize n / 60 = q at h2; omega)]
    exact d3 _
theorem zone_f (z : Int) (h : z.tmod 60 = 0) (h0 : -360000 < z) (h1 : z < 360000) : spec_ZoneText.f z = some (zt z) := by
  unfold spec_ZoneText.f zt
  by_cases c : z < 0
  · rw [if_pos c, if_pos c]
    have wn : wrap64 (-z) = ((-z).toNat : Int) := by unfold wrap64; omega
    have hn : (-z).toNat < 360000 := by omega
    rw [wn]
    clear wn h h0 h1 c
    obtain ⟨n, e⟩ : ∃ n, n = (-z).toNat := ⟨_, rfl⟩
    rw [← e] at hn ⊢
    clear e
    obtain ⟨q1, q2⟩ := quot n hn
    rw [q1, q2, two_f _ (n / 3600) rfl (Nat.div_lt_of_lt_mul (by omega)), two_f _ (n / 60 % 60) rfl (Nat.lt_trans (Nat.mod_lt _ (by decide)) (by decide))]
    rw [Option.bind_some, if_pos (by rw [tw_size]; decide), Option.bind_some, if_pos (by rw [ByteArray.size_append, tw_size, tw_size]; decide)]
  · rw [if_neg c, if_neg c]
    obtain ⟨n, rfl⟩ : ∃ n : Nat, z = (n : Int) := ⟨z.toNat, by omega⟩
    have hn : n < 360000 := by omega
    rw [Int.toNat_natCast]
    clear h h0 h1 c
    obtain ⟨q1, q2⟩ := quot n hn
    rw [q1, q2, two_f _ (n / 3600) rfl (Nat.div_lt_of_lt_mul (by omega)), two_f _ (n / 60 % 60) rfl (Nat.lt_trans (Nat.mod_lt _ (by decide)) (by decide))]
    rw [Option.bind_some, if_pos (by rw [tw_size]; decide), Option.bind_some, if_pos (by rw [ByteArray.size_append, tw_size, tw_size]; decide)]
theorem dec_f (n : Int) (h0 : 0 ≤ n) (h1 : n < 1099511627776) : spec_Decimal.f n = some (dn n) := by
  obtain ⟨m, rfl⟩ : ∃ m : Nat, n = (m : Int) := ⟨n.toNat, by omega⟩
  unfold spec_Decimal.f dn
  rw [if_pos ⟨h0, by omega⟩, Lib.itoa_nonneg, ← ExtO.dob_dec]
  rfl
theorem zt_size (z : Int) : (zt z).size = 5 := by
  unfold zt
  split
  all_goals
    rw [ByteArray.size_append, ByteArray.size_append, tw_size, tw_size]
    rfl
theorem dn_size (n : Int) (h0 : 0 ≤ n) (h1 : n < 1099511627776) : (dn n).size ≤ 21 := by
  have := Lib.itoa_length_le n (by omega) (by omega)
  unfold dn
  rw [Lib.size_eq]
  simpa using this
theorem whoText_f {nm em : ByteArray} {when z : Int} (h : Who nm em when z) : spec_WhoText.f nm em when z = some (who nm em (when + 62135596800) z) := by
  have s1 := h.n
  have s2 := h.e
  have s3 := dn_size when h.w0 h.w1
  have s4 := zt_size z
  have l1 : (⟨#[32, 60]⟩ : ByteArray).size = 2 := rfl
  have l2 : (⟨#[62, 32]⟩ : ByteArray).size = 2 := rfl
  have l3 : (⟨#[32]⟩ : ByteArray).size = 1 := rfl
  unfold spec_WhoText.f
  rw [dec_f when h.w0 h.w1, zone_f z h.zm h.z0 h.z1]
  rw [if_pos (by omega), if_pos (by simp only [ByteArray.size_append]; omega), if_pos (by simp only [ByteArray.size_append]; omega)]
  show (if _ then _ else _) = _
  rw [if_pos (by simp only [ByteArray.size_append]; omega), if_pos (by simp only [ByteArray.size_append]; omega)]
  show (if _ then _ else _) = _
  rw [if_pos (by simp only [ByteArray.size_append]; omega)]
  unfold who
  rw [show when + 62135596800 - 62135596800 = when by omega]
  simp only [ByteArray.append_assoc]
theorem who_size {nm em : ByteArray} {when z : Int} (h : Who nm em when z) : (who nm em (when + 62135596800) z).size ≤ 9000 := by
  have s1 := h.n
  have s2 := h.e
  have s3 := dn_size when h.w0 h.w1
  have s4 := zt_size z
  have l1 : (⟨#[32, 60]⟩ : ByteArray).size = 2 := rfl
  have l2 : (⟨#[62, 32]⟩ : ByteArray).size = 2 := rfl
  have l3 : (⟨#[32]⟩ : ByteArray).size = 1 := rfl
  unfold who
  rw [show when + 62135596800 - 62135596800 = when by omega]
  simp only [ByteArray.size_append]
  omega
end Go.Proofs.YtddnepddilbikaaDoor.PureN
