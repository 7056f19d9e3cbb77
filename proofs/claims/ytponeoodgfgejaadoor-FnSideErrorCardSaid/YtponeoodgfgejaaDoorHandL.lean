/- spec.ReadLines, walked. -/
import Derived.Test.YtponeoodgfgejaaDoorHandK
import Derived.Test.YtponeoodgfgejaaDoorPureQ2
set_option linter.unusedVariables false
set_option linter.unusedSimpArgs false
namespace Go.Proofs.YtponeoodgfgejaaDoor.HandL
open Go.RowKit Go.Proofs.YtponeoodgfgejaaDoorW.PrintWords Go.Proofs.YtponeoodgfgejaaDoorW.PrintLast Go.Proofs.YtponeoodgfgejaaDoorW.PrintMore Go.Proofs.YtponeoodgfgejaaDoor.QAll Txt PureA HandC HandF PureP PureQ PureQ2 HandK

abbrev KL : Kd (List Int) := Kd.slice 5 (Kd.int .u8)
theorem info25 : (Tryd.prog.info? 25).map (fun i => (i.zero, i.size, i.bytes)) = some (some (.slice none 0 0), 1, 24) := by kernel_rfl
/-- What the specification says of the end. -/
def stOf (b : Bool) : Int := cond b 0 1
/-- Slices that say payloads, read in a world. -/
def Subs (w : World) : List (List Int) → List (List Value) → Prop
  | [], [] => True
  | p :: l, v :: vs => (∃ A c, v = [.slice A p.length c] ∧ p.length ≤ c ∧ Kd.C (Kd.int .u8) w A p.length p) ∧ Subs w l vs
  | _, _ => False
theorem Subs_snoc {w : World} {l : List (List Int)} {vs : List (List Value)} {p : List Int} {v : List Value} (h : Subs w l vs) (hp : ∃ A c, v = [.slice A p.length c] ∧ p.length ≤ c ∧ Kd.C (Kd.int .u8) w A p.length p) : Subs w (l ++ [p]) (vs ++ [v]) := by
  induction l generalizing vs with
  | nil => cases vs with
    | nil => exact ⟨hp, trivial⟩
    | cons _ _ => exact h.elim
  | cons q l ih => cases vs with
    | nil => exact h.elim
    | cons u vs => exact ⟨h.1, ih h.2⟩
theorem Subs_len {w : World} {l : List (List Int)} {vs : List (List Value)} (h : Subs w l vs) : vs.length = l.length := by
  induction l generalizing vs with
  | nil => cases vs with
    | nil => rfl
    | cons _ _ => exact h.elim
  | cons q l ih => cases vs with
    | nil => exact h.elim
    | cons u vs => simp [ih h.2]
theorem Subs_get {w : World} {l : List (List Int)} {vs : List (List Value)} (h : Subs w l vs) (j : Nat) (p : List Int) (hj : l[j]? = some p) : ∃ A c, vs[j]? = some [.slice A p.length c] ∧ p.length ≤ c ∧ Kd.C (Kd.int .u8) w A p.length p := by
  induction l generalizing vs j with
  | nil => simp at hj
  | cons q l ih => cases vs with
    | nil => exact h.elim
    | cons u vs =>
      cases j with
      | zero =>
        simp at hj
        subst hj
        obtain ⟨A, c, rfl, h1, h2⟩ := h.1
        exact ⟨A, c, rfl, h1, h2⟩
      | succ j =>
        obtain ⟨A, c, h1, h2⟩ := ih h.2 j (by simpa using hj)
        exact ⟨A, c, by simpa using h1, h2⟩
/-- They read as payloads. -/
theorem Subs_C {w w' : World} {l : List (List Int)} {vs : List (List Value)} {base : Nat} {v : Value} (h : Subs w l vs) (hb : Below w.heap.size w w') (ho : Kd.R (Kd.raw 1) 25 w' base (fun _ => True) v vs) : ∃ A c, v = .slice A l.length c ∧ l.length ≤ c ∧ Kd.C KL w' A l.length l := by
  obtain ⟨A, c, e, hl, hC⟩ := Kd.R_reads ho
  have hlen := Subs_len h
  rw [hlen] at e hl hC
  refine ⟨A, c, e, hl, rfl, hC.2.1, fun hp => ?_⟩
  obtain ⟨ad, ea, hc⟩ := hC.2.2 hp
  refine ⟨ad, ea, fun j p hj => ?_⟩
  obtain ⟨B, d, h1, h2, h3⟩ := Subs_get h j p hj
  obtain ⟨cs, k1, k2, k3⟩ := hc j _ h1
  obtain ⟨rfl, _, _⟩ := k2
  exact ⟨_, rfl, ⟨B, d, rfl, h2, Kd.C_below h3 hb⟩, k3⟩
theorem cutMid (A : Option Addr) (c : Nat) (l : List Int) (m : Nat) (z : Int) (hz : z = (m : Int) + 4) (hm : m + 4 ≤ l.length) (hc : l.length ≤ c) :
    ∃ A' : Option Addr, (∀ W : World, (Instr.slice 25 (.slice A l.length c) (some (.int .i64 4)) (some (.int .i64 z)) none).run Tryd.prog W = .ok (.slice A' m (c - 4)) W) ∧ (∀ w : World, Kd.C (Kd.int .u8) w A l.length l → Kd.C (Kd.int .u8) w A' m ((l.drop 4).take m)) ∧ m ≤ c - 4 := by
  obtain ⟨i, hi, _, hsz, _⟩ := info_parts info5
  obtain ⟨A', h1, h2, h3⟩ := print_mid_of (P := Tryd.prog) (Value.int .u8) 0 25 5 .i64 .i64 Tryd.underlying25 hi hsz A c l 4 z (by omega) (by omega) (by omega) hc
  have hzn : z.toNat = m + 4 := by omega
  have hl : ((l.take z.toNat).drop (4 : Int).toNat) = (l.drop 4).take m := by rw [hzn, List.drop_take]; rfl
  have hl2 : ((l.drop 4).take m).length = m := by rw [List.length_take, List.length_drop]; omega
  rw [hl, hl2] at h1 h3
  refine ⟨A', h1, fun w h => ?_, h3⟩
  have h4 := h2 w (Kd.reads_of_C h)
  rw [hl, hl2] at h4
  exact Kd.C_of_reads (h1 := fun _ => rfl) h4
theorem cutEnd (A : Option Addr) (c : Nat) (l : List Int) (m : Nat) (z : Int) (hz : z = (m : Int) + 4) (hm : m + 4 ≤ l.length) (hc : l.length ≤ c) :
    ∃ A' : Option Addr, (∀ W : World, (Instr.slice 25 (.slice A l.length c) (some (.int .i64 z)) none none).run Tryd.prog W = .ok (.slice A' (l.length - (m + 4)) (c - (m + 4))) W) ∧ (∀ w : World, Kd.C (Kd.int .u8) w A l.length l → Kd.C (Kd.int .u8) w A' (l.length - (m + 4)) (l.drop (m + 4))) ∧ l.length - (m + 4) ≤ c - (m + 4) := by
  obtain ⟨i, hi, _, hsz, _⟩ := info_parts info5
  obtain ⟨A', h1, h2, h3⟩ := print_drop_of (P := Tryd.prog) (Value.int .u8) 0 25 5 .i64 Tryd.underlying25 hi hsz A c l z (by omega) (by omega) hc
  have hzn : z.toNat = m + 4 := by omega
  rw [hzn, List.length_drop] at h1 h3
  refine ⟨A', h1, fun w h => ?_, h3⟩
  have h4 := h2 w (Kd.reads_of_C h)
  rw [hzn, List.length_drop] at h4
  exact Kd.C_of_reads (h1 := fun _ => rfl) h4
set_option maxHeartbeats 8000000 in
set_option maxRecDepth 100000 in
theorem specLines (A : Option Addr) (c : Nat) (D : List Int) (l : List (List Int)) (w : World) (hD : Kd.C (Kd.int .u8) w A D.length D) (hDc : D.length ≤ c) (hl : ∀ p ∈ l, PureP.Good p) (hn : l.length ≤ 5000000) (hm : D.length ≤ (enc l).length) (he : D = (enc l).take D.length) :
    Calls Tryd.prog 23 #[.slice A D.length c] w fun e w' => ∃ (v : Value) (A' : Option Addr) (c' : Nat), e = .returned (.tuple #[v, .int .i64 (stOf (parse l D.length).2)]) ∧ v = .slice A' (parse l D.length).1.length c' ∧ (parse l D.length).1.length ≤ c' ∧ Kd.C KL w' A' (parse l D.length).1.length (parse l D.length).1 ∧ Below w.heap.size w w' := by
  have HD := Aside0.mk hD
  have HDc := Aside0.mk hDc
  have HG := Aside0.mk hl
  have HN := Aside0.mk hn
  have HE := Aside0.mk he
  have HM := Aside0.mk hm
  clear hD hDc hl hn hm he
  go_enter Tryd.func23, Tryd.ntmps23
  go_wp2
  go_loopg [0, 4] l.length (fun gk v0 v4 w' => ∃ (dn r : List (List Int)) (db : List Int) (Ab : Option Addr) (cb : Nat) (vals : List (List Value)), v0 = .slice Ab db.length cb ∧ Aside0 (l = dn ++ r) ∧ gk = r.length ∧ (db = (enc r).take db.length ∧ db.length ≤ (enc r).length) ∧ Aside0 (parse l D.length = (dn ++ (parse r db.length).1, (parse r db.length).2)) ∧ Aside0 (Kd.C (Kd.int .u8) w Ab db.length db) ∧ Aside0 (db.length ≤ cb) ∧ Aside0 (Kd.R (Kd.raw 1) 25 w' w.heap.size (fun _ => True) v4 vals) ∧ Aside0 (Subs w dn vals) ∧ Aside0 (Below w.heap.size w w'))
  case atStart => exact ⟨[], l, D, A, c, [], rfl, ⟨rfl⟩, rfl, ⟨HE.out, HM.out⟩, ⟨by simp⟩, HD, HDc, ⟨Kd.R_nil _ _ _ _ _⟩, ⟨trivial⟩, ⟨Below.refl _ _⟩⟩
  case round =>
    obtain ⟨dn, r, db, Ab, cb, vals, rfl, HL, rfl, ⟨hdb, hle⟩, HPA, HCb, HLb, HO, HSU, HB⟩ := hrel
    by_cases q1 : db.length = 0
    · have HPE : Aside0 (parse r db.length = ([], true)) := ⟨by rw [q1]; exact parse_zero r⟩
      have d1 : decide (0 < db.length) = false := decide_eq_false (by omega)
      have d2 : decide (0 < (db.length : Int)) = false := decide_eq_false (by omega)
      have HB0 := HB
      clear hdb hle q1
      go_wp2
      go_ret2
      obtain ⟨A', c', e', hc', hC'⟩ := Subs_C HSU.out HB0.out HO.out
      exact ⟨_, A', c', by rw [HPA.out, HPE.out]; rfl, by simp only [HPA.out, HPE.out, List.append_nil]; exact e', by simp only [HPA.out, HPE.out, List.append_nil]; exact hc', by simp only [HPA.out, HPE.out, List.append_nil]; exact hC', HB0.out⟩
    · have d1 : decide (0 < db.length) = true := decide_eq_true (by omega)
      have d2 : decide (0 < (db.length : Int)) = true := decide_eq_true (by omega)
      rcases r with _ | ⟨p, r⟩
      · have : (enc ([] : List (List Int))).length = 0 := rfl
        omega
      · have hgp := HG.out p (by rw [HL.out]; simp)
        have HVL : Aside0 (vals.length < 5000000) := ⟨by have := HN.out; rw [HL.out, List.length_append, List.length_cons] at this; have := Subs_len HSU.out; omega⟩
        by_cases q2 : db.length < 4
        · have HPE : Aside0 (parse (p :: r) db.length = ([], false)) := ⟨parse_part p r _ (by omega) q2⟩
          have d3 : decide (db.length < 4) = true := decide_eq_true q2
          have d4 : decide ((db.length : Int) < 4) = true := decide_eq_true (by omega)
          clear hdb hle q1 q2 hgp
          go_wp2
          go_ret2
          obtain ⟨A', c', e', hc', hC'⟩ := Subs_C HSU.out HB.out HO.out
          exact ⟨_, A', c', by rw [HPA.out, HPE.out]; rfl, by simp only [HPA.out, HPE.out, List.append_nil]; exact e', by simp only [HPA.out, HPE.out, List.append_nil]; exact hc', by simp only [HPA.out, HPE.out, List.append_nil]; exact hC', HB.out⟩
        · have d3 : decide (db.length < 4) = false := decide_eq_false q2
          have d4 : decide ((db.length : Int) < 4) = false := decide_eq_false (by omega)
          obtain ⟨e0, e1, e2, e3, _, hd4, g0, g1, g2, g3, hmm⟩ := PureP.step db 0 p r hgp.len (by rw [List.drop_zero, Nat.sub_zero]; exact hdb) (by omega)
          rw [List.drop_zero] at hd4
          have hrf : spec_readHex4.f 13 db = some (hexv e0 e1 e2 e3, 0) := by
            have e := (List.take_append_drop 4 db).symm
            rw [hd4] at e
            rw [e]
            exact readHex_f e0 e1 e2 e3 _ 0 g0 g1 g2 g3
          obtain ⟨m, hpm⟩ : ∃ m, m = p.length := ⟨_, rfl⟩
          rw [← hpm] at hmm
          have hm6 : m ≤ 65516 := by rw [hpm]; exact hgp.len
          by_cases q3 : db.length < m + 4
          · have HPE : Aside0 (parse (p :: r) db.length = ([], false)) := ⟨parse_cut p r _ (by omega) (by omega)⟩
            have hz : (m : Int) + 4 = hexv e0 e1 e2 e3 := by omega
            rw [← hz] at hrf
            have HRE := Aside0.mk hrf
            have z0 : ((m : Int) + 4 == 0) = false := by rw [beq_eq_false_iff_ne]; omega
            have z1 : decide ((m : Int) + 4 ≤ 4) = false := decide_eq_false (by omega)
            have z2 : decide (65520 < (m : Int) + 4) = false := decide_eq_false (by omega)
            have z3 : decide ((db.length : Int) < (m : Int) + 4) = true := decide_eq_true (by omega)
            have HRH : Aside0 (∀ W, Below w.heap.size w W → Calls Tryd.prog 35 #[.slice Ab db.length cb] W fun e w' => e = .returned (.tuple #[.int .i64 ((m : Int) + 4), .int .i64 0]) ∧ Drawn0 W w') := ⟨fun W hb => spec_readHex4.calls 13 Ab cb db _ _ W (Kd.C_below HCb.out hb) HLb.out HRE.out⟩
            clear hdb hle q1 q2 q3 hgp hd4 g0 g1 g2 g3 hmm hrf hz hpm hm6
            go_wp2_with (first | (go_at_call 35; (with_reducible refine (HRH.out _ HB.out).mono ?_); rintro e w3 ⟨rfl, hd3⟩; have HB3 := Aside0.mk (below_step HB.out (Drawn0.below hd3)); have HD3 := Aside0.mk (Drawn0.below hd3); clear hd3))
            go_ret2
            obtain ⟨A', c', e', hc', hC'⟩ := Subs_C HSU.out HB3.out (Kd.R_below HO.out HD3.out)
            exact ⟨_, A', c', by rw [HPA.out, HPE.out]; rfl, by simp only [HPA.out, HPE.out, List.append_nil]; exact e', by simp only [HPA.out, HPE.out, List.append_nil]; exact hc', by simp only [HPA.out, HPE.out, List.append_nil]; exact hC', HB3.out⟩
          · obtain ⟨hb1, hb2⟩ := PureP.step_body db 0 p r hgp.len (by rw [List.drop_zero, Nat.sub_zero]; exact hdb) (by omega)
            rw [← hpm] at hb1 hb2
            have HBM : Aside0 ((db.drop 4).take m = p) := ⟨by rw [← hb1]⟩
            have HBD : Aside0 (db.drop (m + 4) = (enc r).take (db.drop (m + 4)).length ∧ (db.drop (m + 4)).length ≤ (enc r).length) := ⟨by
              have e : 0 + 4 + m = m + 4 := by omega
              rw [e] at hb2
              rw [List.length_drop]
              refine ⟨hb2, ?_⟩
              rw [enc_cons, List.length_append, lineOf_len, ← hpm] at hle
              omega⟩
            have HPE : Aside0 (parse (p :: r) db.length = (p :: (parse r (db.drop (m + 4)).length).1, (parse r (db.drop (m + 4)).length).2)) := ⟨by rw [parse_all p r _ (by omega), List.length_drop, show db.length - (4 + p.length) = db.length - (m + 4) by omega]⟩
            have HPM := Aside0.mk hpm.symm
            have HER := Aside0.mk (isErr_good p hgp)
            have hfit : m + 4 ≤ db.length := by omega
            have z9 : decide (db.length < m + 4) = false := decide_eq_false q3
            clear hdb hle q1 q2 q3 hgp hd4 g0 g1 g2 g3 hb1 hb2 hpm
            rcases hmm with ⟨y1, y2⟩ | ⟨y1, y2, y3⟩
            · rw [y1] at hrf
              have HRE := Aside0.mk hrf
              clear hrf y1
              have HRH : Aside0 (∀ W, Below w.heap.size w W → Calls Tryd.prog 35 #[.slice Ab db.length cb] W fun e w' => e = .returned (.tuple #[.int .i64 (0), .int .i64 0]) ∧ Drawn0 W w') := ⟨fun W hb => spec_readHex4.calls 13 Ab cb db _ _ W (Kd.C_below HCb.out hb) HLb.out HRE.out⟩
              obtain ⟨A1, hcut1, hC1, hl1⟩ := cutMid Ab cb db m (4) (by omega) (by omega) HLb.out
              have HC1 : Aside0 (Kd.C (Kd.int .u8) w A1 m p) := ⟨by have := hC1 w HCb.out; rw [HBM.out] at this; exact this⟩
              have HL1 := Aside0.mk hl1
              have HIE : Aside0 (∀ W, Below w.heap.size w W → Calls Tryd.prog 36 #[.slice A1 m (cb - 4)] W fun e w' => e = .returned (.bool false) ∧ Drawn0 W w') := ⟨fun W hb => by
                have := spec_isErr.calls A1 (cb - 4) p false W (by rw [HPM.out]; exact Kd.C_below HC1.out hb) (by rw [HPM.out]; exact HL1.out) HER.out
                rw [HPM.out] at this
                exact this⟩
              obtain ⟨A2, hcut2, hC2, hl2⟩ := cutEnd Ab cb db m (4) (by omega) (by omega) HLb.out
              have HC2 := Aside0.mk (hC2 w HCb.out)
              have HL2 := Aside0.mk hl2
              clear hC1 hC2 hl1 hl2
              try clear y2
              go_wp2_with (first
                | (go_at_call 35; (with_reducible refine (HRH.out _ HB.out).mono ?_); rintro e w3 ⟨rfl, hd3⟩; have HB3 := Aside0.mk (below_step HB.out (Drawn0.below hd3)); have HD3 := Aside0.mk (Drawn0.below hd3); clear hd3)
                | (go_at_call 36; (with_reducible refine (HIE.out _ HB3.out).mono ?_); rintro e w4 ⟨rfl, hd4⟩; have HB4 := Aside0.mk (below_step HB3.out (Drawn0.below hd4)); have HD4 := Aside0.mk (Drawn0.below hd4); clear hd4)
                | ((with_reducible refine gate_builtin (b := .append) (xs := #[.tmp 45, .tmp 49]) rfl ?_); at_builtin; refine Kd.R_append (Kd.raw 1) (w0 := w) (W := w4) w.heap.size rfl (.tmp 45) (.tmp 49) 44 25 (.slice none 0 0) 24 rfl Tryd.underlying44 info25 rfl (by decide) (by omega) u4 vals [.slice A1 m (cb - 4)] [.slice A1 m (cb - 4)] (fun _ => True) (fun _ => False) rfl rfl ⟨rfl, rfl, fun u hu => by rw [List.mem_singleton.1 hu]; rfl⟩ (fun _ h => h.elim) (fun _ _ => trivial) (Kd.R_below (Kd.R_below HO.out HD3.out) HD4.out) HB4.out HB4.out.size (by have := HVL.out; omega) ?_; intro v5 w5 ho5 hb5 hg5 hat5; have HO5 := Aside0.mk ho5; have HB5 := Aside0.mk hb5; clear ho5 hb5 hg5 hat5))
              go_roundg r.length
              case measure => simp
              case rel => exact ⟨dn ++ [p], r, db.drop (m + 4), A2, cb - (m + 4), vals ++ [[.slice A1 m (cb - 4)]], by rw [List.length_drop], ⟨by rw [HL.out]; simp⟩, rfl, HBD.out, ⟨by rw [HPA.out, HPE.out]; simp⟩, ⟨by rw [List.length_drop]; exact HC2.out⟩, ⟨by rw [List.length_drop]; exact HL2.out⟩, HO5, ⟨Subs_snoc HSU.out ⟨A1, cb - 4, by rw [HPM.out], by rw [HPM.out]; exact HL1.out, by rw [HPM.out]; exact HC1.out⟩⟩, HB5⟩
            · have hz : (m : Int) + 4 = hexv e0 e1 e2 e3 := by omega
              rw [← hz] at hrf y1 y2
              have HRE := Aside0.mk hrf
              clear hrf hz y3
              have z0 : ((m : Int) + 4 == 0) = false := by rw [beq_eq_false_iff_ne]; omega
              have z1 : decide ((m : Int) + 4 ≤ 4) = false := decide_eq_false (by omega)
              have z2 : decide (65520 < (m : Int) + 4) = false := decide_eq_false (by omega)
              have z3 : decide ((db.length : Int) < (m : Int) + 4) = false := decide_eq_false (by omega)
              have HRH : Aside0 (∀ W, Below w.heap.size w W → Calls Tryd.prog 35 #[.slice Ab db.length cb] W fun e w' => e = .returned (.tuple #[.int .i64 ((m : Int) + 4), .int .i64 0]) ∧ Drawn0 W w') := ⟨fun W hb => spec_readHex4.calls 13 Ab cb db _ _ W (Kd.C_below HCb.out hb) HLb.out HRE.out⟩
              obtain ⟨A1, hcut1, hC1, hl1⟩ := cutMid Ab cb db m ((m : Int) + 4) (by omega) (by omega) HLb.out
              have HC1 : Aside0 (Kd.C (Kd.int .u8) w A1 m p) := ⟨by have := hC1 w HCb.out; rw [HBM.out] at this; exact this⟩
              have HL1 := Aside0.mk hl1
              have HIE : Aside0 (∀ W, Below w.heap.size w W → Calls Tryd.prog 36 #[.slice A1 m (cb - 4)] W fun e w' => e = .returned (.bool false) ∧ Drawn0 W w') := ⟨fun W hb => by
                have := spec_isErr.calls A1 (cb - 4) p false W (by rw [HPM.out]; exact Kd.C_below HC1.out hb) (by rw [HPM.out]; exact HL1.out) HER.out
                rw [HPM.out] at this
                exact this⟩
              obtain ⟨A2, hcut2, hC2, hl2⟩ := cutEnd Ab cb db m ((m : Int) + 4) (by omega) (by omega) HLb.out
              have HC2 := Aside0.mk (hC2 w HCb.out)
              have HL2 := Aside0.mk hl2
              clear hC1 hC2 hl1 hl2
              try clear y2
              go_wp2_with (first
                | (go_at_call 35; (with_reducible refine (HRH.out _ HB.out).mono ?_); rintro e w3 ⟨rfl, hd3⟩; have HB3 := Aside0.mk (below_step HB.out (Drawn0.below hd3)); have HD3 := Aside0.mk (Drawn0.below hd3); clear hd3)
                | (go_at_call 36; (with_reducible refine (HIE.out _ HB3.out).mono ?_); rintro e w4 ⟨rfl, hd4⟩; have HB4 := Aside0.mk (below_step HB3.out (Drawn0.below hd4)); have HD4 := Aside0.mk (Drawn0.below hd4); clear hd4)
                | ((with_reducible refine gate_builtin (b := .append) (xs := #[.tmp 45, .tmp 49]) rfl ?_); at_builtin; refine Kd.R_append (Kd.raw 1) (w0 := w) (W := w4) w.heap.size rfl (.tmp 45) (.tmp 49) 44 25 (.slice none 0 0) 24 rfl Tryd.underlying44 info25 rfl (by decide) (by omega) u4 vals [.slice A1 m (cb - 4)] [.slice A1 m (cb - 4)] (fun _ => True) (fun _ => False) rfl rfl ⟨rfl, rfl, fun u hu => by rw [List.mem_singleton.1 hu]; rfl⟩ (fun _ h => h.elim) (fun _ _ => trivial) (Kd.R_below (Kd.R_below HO.out HD3.out) HD4.out) HB4.out HB4.out.size (by have := HVL.out; omega) ?_; intro v5 w5 ho5 hb5 hg5 hat5; have HO5 := Aside0.mk ho5; have HB5 := Aside0.mk hb5; clear ho5 hb5 hg5 hat5))
              go_roundg r.length
              case measure => simp
              case rel => exact ⟨dn ++ [p], r, db.drop (m + 4), A2, cb - (m + 4), vals ++ [[.slice A1 m (cb - 4)]], by rw [List.length_drop], ⟨by rw [HL.out]; simp⟩, rfl, HBD.out, ⟨by rw [HPA.out, HPE.out]; simp⟩, ⟨by rw [List.length_drop]; exact HC2.out⟩, ⟨by rw [List.length_drop]; exact HL2.out⟩, HO5, ⟨Subs_snoc HSU.out ⟨A1, cb - 4, by rw [HPM.out], by rw [HPM.out]; exact HL1.out, by rw [HPM.out]; exact HC1.out⟩⟩, HB5⟩
#print axioms specLines
end Go.Proofs.YtponeoodgfgejaaDoor.HandL
