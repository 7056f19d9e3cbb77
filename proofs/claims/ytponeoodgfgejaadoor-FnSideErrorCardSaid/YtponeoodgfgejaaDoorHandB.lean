/- io.ReadAtLeast and io.ReadFull over a bytes.Reader, walked. -/
import Derived.Test.YtponeoodgfgejaaDoorHandA
import Derived.LaidEql
set_option linter.unusedVariables false
set_option linter.unusedSimpArgs false
namespace Go.Proofs.YtponeoodgfgejaaDoor.HandB
open Go.RowKit Go.Proofs.YtponeoodgfgejaaDoorW.PrintWords Go.Proofs.YtponeoodgfgejaaDoorW.PrintLast Go.Proofs.YtponeoodgfgejaaDoorW.PrintMore Go.Proofs.YtponeoodgfgejaaDoor.QAll Txt PureA HandA

theorem found39 : (Tryd.prog.info? 69).map (fun i => (i.methods.find? (fun m => m.name == "Read")).map (fun m => (m.path, m.func))) = some (some (#[], some (97, true))) := by kernel_rfl
theorem info39 : ∃ i m, Tryd.prog.info? 69 = some i ∧ i.methods.find? (fun m => m.name == "Read") = some m ∧ m.path = #[] ∧ m.func = some (97, true) := by
  have h := found39
  obtain ⟨i, hi, h1⟩ := Option.map_eq_some_iff.1 h
  obtain ⟨m, hm, h2⟩ := Option.map_eq_some_iff.1 h1
  simp only [Prod.mk.injEq] at h2
  exact ⟨i, m, hi, hm, h2.1, h2.2⟩
theorem nilAhead39 (n g : Nat) (W : World) : (nilAhead (n + 1) 69 (.pointer (some ⟨g, 0, none⟩)) "Read").run Tryd.prog W = .ok (some false) W := by
  obtain ⟨i, m, h1, h2, h3, h4⟩ := info39
  unfold nilAhead
  simp [typeInfo, h1, h2, h3, h4, followBlind]
theorem method39 (n g : Nat) (W : World) : (method (n + 1) 69 (.pointer (some ⟨g, 0, none⟩)) "Read").run Tryd.prog W = .ok (97, .pointer (some ⟨g, 0, none⟩)) W := by
  obtain ⟨i, m, h1, h2, h3, h4⟩ := info39
  unfold method
  simp [typeInfo, h1, h2, h3, h4, follow, receiverAt, Place.get, Tryd.underlying69]
theorem info94 : (Tryd.prog.info? 126).map (·.comparable) = some true := by kernel_rfl
theorem info113 : (Tryd.prog.info? 128).map (·.size) = some 1 := by kernel_rfl
/-- Two errors of errors.New: the same. -/
theorem eqSame (a : Addr) (W : World) : (binOp .eql 58 (.iface 126 (.pointer (some a))) (.iface 126 (.pointer (some a)))).run Tryd.prog W = .ok (.bool true) W := by
  obtain ⟨i, hi, hc⟩ := Option.map_eq_some_iff.1 info94
  obtain ⟨j, hj, _⟩ := Option.map_eq_some_iff.1 info113
  exact run_eql_iface_ptr_same W a Tryd.underlying58 Tryd.underlying126 hi hc hj
/-- Two others. -/
theorem eqOther {a b : Addr} (W : World) {ca cb : Array Value} {ta tb : TypeId} (hne : a ≠ b) (ha : W.heap[a.block]? = some (.cells ca ta (0, 0))) (hb : W.heap[b.block]? = some (.cells cb tb (0, 0))) : (binOp .eql 58 (.iface 126 (.pointer (some a))) (.iface 126 (.pointer (some b)))).run Tryd.prog W = .ok (.bool false) W := by
  obtain ⟨i, hi, hc⟩ := Option.map_eq_some_iff.1 info94
  obtain ⟨j, hj, hs⟩ := Option.map_eq_some_iff.1 info113
  exact run_eql_iface_ptr_other W Tryd.underlying58 Tryd.underlying126 hi hc hj (by rw [hs]; decide) hne ha hb
/-- A buffer from its place m on. -/
theorem cutB (g off n cb m : Nat) (hm : m ≤ n) (hc : n ≤ cb) (hl : m < cb) : ∀ W : World, (Instr.slice 25 (.slice (some ⟨g, off, none⟩) n cb) (some (.int .i64 (m : Int))) none none).run Tryd.prog W = .ok (.slice (some ⟨g, off + m, none⟩) (n - m) (cb - m)) W := by
  obtain ⟨i, hi, _, hsz, _⟩ := info_parts (show (Tryd.prog.info? 5).map (fun i => (i.zero, i.size, i.bytes)) = some (some (.int .u8 0), 1, 1) by kernel_rfl)
  intro W
  have hel : Tryd.prog.elem 25 = 5 := by simp [Program.elem, Tryd.underlying25]
  have hu : Tryd.prog.underlying 25 = some (.slice (Tryd.prog.elem 25)) := by rw [hel]; exact Tryd.underlying25
  rw [run_slice_l W 25 (some ⟨g, off, none⟩) n cb hu .i64 (m : Int) (Int.natCast_nonneg _) (by omega), hel]
  have hadd : (⟨g, off, none⟩ : Addr).add m = ⟨g, off + m, none⟩ := by unfold Addr.add; split <;> simp_all
  have hcm : cb ≠ m := by omega
  simp [sizeOf, typeInfo, hi, hsz, sliced, Result.andThen, hcm, hadd]

set_option maxHeartbeats 8000000 in
set_option maxRecDepth 100000 in
theorem atLeastEnd (rb g off n cb : Nat) (A : Option Addr) (c : Nat) (D : List Int) (pos : Nat) (pr : Int) (cur : List Value) (t : Nat) (aE : Addr) (w : World) (hr : w.heap[rb]? = some (.cells (rdC A D c pos pr) 90 (0, 0))) (hg : w.heap[g]? = some (.cells cur.toArray t (0, 0))) (hne : rb ≠ g) (hfit : off + n ≤ cur.length) (hcb : n ≤ cb) (hD : Kd.C (Kd.int .u8) w A D.length D) (hDc : D.length ≤ c) (hE : w.cell? ⟨0, 0, none⟩ = some (.iface 126 (.pointer (some aE)))) (hn : 0 < n) (hpos : pos = D.length) :
    Calls Tryd.prog 54 #[.iface 69 (.pointer (some ⟨rb, 0, none⟩)), .slice (some ⟨g, off, none⟩) n cb, .int .i64 (n : Int)] w fun e w' => e = .returned (.tuple #[.int .i64 0, .iface 126 (.pointer (some aE))]) ∧ Same w w' := by
  have hna := fun g W => nilAhead39 268 g W
  have hme := fun g W => method39 268 g W
  have HM : Aside0 (D.length ≤ 9223372036854775807) := ⟨hD.2.1⟩
  have hcut0 := cutB g off n cb 0 (Nat.zero_le _) hcb (by omega)
  rw [Nat.add_zero, Nat.sub_zero, Nat.sub_zero] at hcut0
  have hcut00 : ∀ W : World, (Instr.slice 25 (.slice (some ⟨g, off, none⟩) n cb) (some (.int .i64 0)) none none).run Tryd.prog W = .ok (.slice (some ⟨g, off, none⟩) n cb) W := hcut0
  subst hpos
  have HRE := Aside0.mk (fun W (hW : Same w W) => readEnd rb n cb (some ⟨g, off, none⟩) A c D pr _ W (hW.blk hr) (hW.cell hE) HM.out)
  clear hr hg hne hfit hD hE
  go_enter Tryd.func54, Tryd.ntmps54
  go_wp2
  go_loopg [6, 7] 1 (fun gk v6 v7 w' => (gk = 1 ∧ v6 = .int .i64 0 ∧ v7 = .nilIface ∧ w' = w) ∨ (gk = 0 ∧ v6 = .int .i64 0 ∧ v7 = .iface 126 (.pointer (some aE)) ∧ Aside0 (Same w w')))
  case atStart => exact Or.inl ⟨rfl, rfl, rfl, rfl⟩
  case round =>
    rcases hrel with ⟨rfl, rfl, rfl, rfl⟩ | ⟨rfl, rfl, rfl, HS⟩
    · go_wp2
      go_region_law (first
        | (go_simp; go_at_call 97; with_reducible refine (HRE.out _ (Same.drew _)).mono ?_; rintro e w1 ⟨rfl, hs⟩; have HS := Aside0.mk ((Same.drew _).trans hs); clear hs))
      all_goals (
        go_wp2
        go_roundg 0
        case measure => omega
        case rel => exact Or.inr ⟨rfl, rfl, rfl, HS⟩)
    · go_wp2
      go_ret2
      exact ⟨rfl, HS.out⟩
#print axioms atLeastEnd

set_option maxHeartbeats 8000000 in
set_option maxRecDepth 100000 in
theorem fullEnd (rb g off n cb : Nat) (A : Option Addr) (c : Nat) (D : List Int) (pos : Nat) (pr : Int) (cur : List Value) (t : Nat) (aE : Addr) (w : World) (hr : w.heap[rb]? = some (.cells (rdC A D c pos pr) 90 (0, 0))) (hg : w.heap[g]? = some (.cells cur.toArray t (0, 0))) (hne : rb ≠ g) (hfit : off + n ≤ cur.length) (hcb : n ≤ cb) (hD : Kd.C (Kd.int .u8) w A D.length D) (hDc : D.length ≤ c) (hE : w.cell? ⟨0, 0, none⟩ = some (.iface 126 (.pointer (some aE)))) (hn : 0 < n) (hpos : pos = D.length) :
    Calls Tryd.prog 42 #[.iface 69 (.pointer (some ⟨rb, 0, none⟩)), .slice (some ⟨g, off, none⟩) n cb] w fun e w' => e = .returned (.tuple #[.int .i64 0, .iface 126 (.pointer (some aE))]) ∧ Same w w' := by
  have HA := Aside0.mk (atLeastEnd rb g off n cb A c D pos pr cur t aE w hr hg hne hfit hcb hD hDc hE hn hpos)
  clear hr hg hne hfit hD hE
  go_enter Tryd.func42, Tryd.ntmps42
  go_wp2_with (first | (go_at_call 54; (with_reducible refine HA.out.mono ?_); rintro e w1 ⟨rfl, HQ⟩; have HQ2 := Aside0.mk HQ; clear HQ))
  go_ret2
  exact ⟨rfl, HQ2.out⟩
#print axioms fullEnd

set_option maxHeartbeats 8000000 in
set_option maxRecDepth 100000 in
theorem atLeastAll (rb g off n cb : Nat) (A : Option Addr) (c : Nat) (D : List Int) (pos : Nat) (pr : Int) (cur : List Value) (t : Nat) (aE : Addr) (w : World) (hr : w.heap[rb]? = some (.cells (rdC A D c pos pr) 90 (0, 0))) (hg : w.heap[g]? = some (.cells cur.toArray t (0, 0))) (hne : rb ≠ g) (hfit : off + n ≤ cur.length) (hcb : n ≤ cb) (hD : Kd.C (Kd.int .u8) w A D.length D) (hDc : D.length ≤ c) (hE : w.cell? ⟨0, 0, none⟩ = some (.iface 126 (.pointer (some aE)))) (hn : 0 < n) (k : Nat) (hk : k = min n (D.length - pos)) (hpos : pos + n ≤ D.length) :
    Calls Tryd.prog 54 #[.iface 69 (.pointer (some ⟨rb, 0, none⟩)), .slice (some ⟨g, off, none⟩) n cb, .int .i64 (n : Int)] w fun e w' => e = .returned (.tuple #[.int .i64 (n : Int), .nilIface]) ∧ Rd w w' rb g off A D c pos n cur t := by
  have hna := fun g W => nilAhead39 268 g W
  have hme := fun g W => method39 268 g W
  have HM : Aside0 (D.length ≤ 9223372036854775807) := ⟨hD.2.1⟩
  have hcut0 := cutB g off n cb 0 (Nat.zero_le _) hcb (by omega)
  rw [Nat.add_zero, Nat.sub_zero, Nat.sub_zero] at hcut0
  have hcut00 : ∀ W : World, (Instr.slice 25 (.slice (some ⟨g, off, none⟩) n cb) (some (.int .i64 0)) none none).run Tryd.prog W = .ok (.slice (some ⟨g, off, none⟩) n cb) W := hcut0
  have HRS := Aside0.mk (fun W (hW : Same w W) => readSome rb g off n cb k A c D pos pr cur t W (hW.blk hr) (hW.blk hg) hne hfit (Kd.C_below hD (hW.below _)) hDc (by omega) hk)
  obtain rfl : k = n := by omega
  have hwn : wrap64 (k : Int) = (k : Int) := by have := HM.out; unfold wrap64; omega
  clear hr hg hne hfit hD hE hk
  go_enter Tryd.func54, Tryd.ntmps54
  go_wp2
  go_loopg [6, 7] 1 (fun gk v6 v7 w' => (gk = 1 ∧ v6 = .int .i64 0 ∧ v7 = .nilIface ∧ w' = w) ∨ (gk = 0 ∧ v6 = .int .i64 (k : Int) ∧ v7 = .nilIface ∧ Aside0 (Rd w w' rb g off A D c pos k cur t)))
  case atStart => exact Or.inl ⟨rfl, rfl, rfl, rfl⟩
  case round =>
    rcases hrel with ⟨rfl, rfl, rfl, rfl⟩ | ⟨rfl, rfl, rfl, HS⟩
    · go_wp2
      go_region_law (first
        | (go_simp; go_at_call 97; with_reducible refine (HRS.out _ (Same.drew _)).mono ?_; rintro e w1 ⟨rfl, hs⟩; have HS : Aside0 (Rd wr w1 rb g off A D c pos k cur t) := ⟨⟨(Far.of_same (Same.drew _) _).trans hs.f, hs.g, hs.r⟩⟩; clear hs))
      all_goals (
        go_wp2
        go_roundg 0
        case measure => omega
        case rel => exact Or.inr ⟨rfl, by first | rfl | (rw [hwn]), rfl, HS⟩)
    · go_wp2
      go_ret2
      exact ⟨rfl, HS.out⟩
#print axioms atLeastAll

set_option maxHeartbeats 8000000 in
set_option maxRecDepth 100000 in
theorem fullAll (rb g off n cb : Nat) (A : Option Addr) (c : Nat) (D : List Int) (pos : Nat) (pr : Int) (cur : List Value) (t : Nat) (aE : Addr) (w : World) (hr : w.heap[rb]? = some (.cells (rdC A D c pos pr) 90 (0, 0))) (hg : w.heap[g]? = some (.cells cur.toArray t (0, 0))) (hne : rb ≠ g) (hfit : off + n ≤ cur.length) (hcb : n ≤ cb) (hD : Kd.C (Kd.int .u8) w A D.length D) (hDc : D.length ≤ c) (hE : w.cell? ⟨0, 0, none⟩ = some (.iface 126 (.pointer (some aE)))) (hn : 0 < n) (k : Nat) (hk : k = min n (D.length - pos)) (hpos : pos + n ≤ D.length) :
    Calls Tryd.prog 42 #[.iface 69 (.pointer (some ⟨rb, 0, none⟩)), .slice (some ⟨g, off, none⟩) n cb] w fun e w' => e = .returned (.tuple #[.int .i64 (n : Int), .nilIface]) ∧ Rd w w' rb g off A D c pos n cur t := by
  have HA := Aside0.mk (atLeastAll rb g off n cb A c D pos pr cur t aE w hr hg hne hfit hcb hD hDc hE hn k hk hpos)
  clear hr hg hne hfit hD hE hk hpos
  go_enter Tryd.func42, Tryd.ntmps42
  go_wp2_with (first | (go_at_call 54; (with_reducible refine HA.out.mono ?_); rintro e w1 ⟨rfl, HQ⟩; have HQ2 := Aside0.mk HQ; clear HQ))
  go_ret2
  exact ⟨rfl, HQ2.out⟩
#print axioms fullAll

set_option maxHeartbeats 8000000 in
set_option maxRecDepth 100000 in
theorem atLeastPart (rb g off n cb : Nat) (A : Option Addr) (c : Nat) (D : List Int) (pos : Nat) (pr : Int) (cur : List Value) (t : Nat) (aE : Addr) (w : World) (hr : w.heap[rb]? = some (.cells (rdC A D c pos pr) 90 (0, 0))) (hg : w.heap[g]? = some (.cells cur.toArray t (0, 0))) (hne : rb ≠ g) (hfit : off + n ≤ cur.length) (hcb : n ≤ cb) (hD : Kd.C (Kd.int .u8) w A D.length D) (hDc : D.length ≤ c) (hE : w.cell? ⟨0, 0, none⟩ = some (.iface 126 (.pointer (some aE)))) (hn : 0 < n) (k : Nat) (aU : Addr) (hk : k = min n (D.length - pos)) (hpos : pos < D.length) (hpos2 : D.length < pos + n) (hU : w.cell? ⟨2, 0, none⟩ = some (.iface 126 (.pointer (some aU)))) (hs0 : g ≠ 0) (hs1 : rb ≠ 0) (hs2 : g ≠ 2) (hs3 : rb ≠ 2) :
    Calls Tryd.prog 54 #[.iface 69 (.pointer (some ⟨rb, 0, none⟩)), .slice (some ⟨g, off, none⟩) n cb, .int .i64 (n : Int)] w fun e w' => e = .returned (.tuple #[.int .i64 (k : Int), .iface 126 (.pointer (some aU))]) ∧ Rd w w' rb g off A D c pos k cur t := by
  have hna := fun g W => nilAhead39 268 g W
  have hme := fun g W => method39 268 g W
  have HM : Aside0 (D.length ≤ 9223372036854775807) := ⟨hD.2.1⟩
  have hcut0 := cutB g off n cb 0 (Nat.zero_le _) hcb (by omega)
  rw [Nat.add_zero, Nat.sub_zero, Nat.sub_zero] at hcut0
  have hcut00 : ∀ W : World, (Instr.slice 25 (.slice (some ⟨g, off, none⟩) n cb) (some (.int .i64 0)) none none).run Tryd.prog W = .ok (.slice (some ⟨g, off, none⟩) n cb) W := hcut0
  have HRS := Aside0.mk (fun W (hW : Same w W) => readSome rb g off n cb k A c D pos pr cur t W (hW.blk hr) (hW.blk hg) hne hfit (Kd.C_below hD (hW.below _)) hDc (by omega) hk)
  have hk0 : 0 < k := by omega
  have hkn : k < n := by omega
  have hke : pos + k = D.length := by omega
  have hcutk := cutB g off n cb k (by omega) hcb (by omega)
  have HEE : Aside0 (∀ W, Rd w W rb g off A D c pos k cur t → W.cell? ⟨0, 0, none⟩ = some (.iface 126 (.pointer (some aE))) ∧ W.cell? ⟨2, 0, none⟩ = some (.iface 126 (.pointer (some aU)))) := ⟨fun W hW => ⟨hW.f.cell hE (by show ¬ ((0 : Nat) = g ∨ (0 : Nat) = rb); omega), hW.f.cell hU (by show ¬ ((2 : Nat) = g ∨ (2 : Nat) = rb); omega)⟩⟩
  have HRE2 := Aside0.mk (fun W (hW : Rd w W rb g off A D c pos k cur t) => by
    obtain ⟨pr', hr'⟩ := hW.r
    rw [hke] at hr'
    exact fun W' (hS : Same W W') => readEnd rb (n - k) (cb - k) (some ⟨g, off + k, none⟩) A c D pr' _ W' (hS.blk hr') (hS.cell (HEE.out W hW).1) HM.out)
  have hwn : wrap64 (k : Int) = (k : Int) := by have := HM.out; unfold wrap64; omega
  clear hr hg hne hfit hD hE hU hs0 hs1 hs2 hs3 hk hke hpos hpos2
  go_enter Tryd.func54, Tryd.ntmps54
  go_wp2
  go_loopg [6, 7] 2 (fun gk v6 v7 w' => (gk = 2 ∧ v6 = .int .i64 0 ∧ v7 = .nilIface ∧ w' = w) ∨ (gk = 1 ∧ v6 = .int .i64 (k : Int) ∧ v7 = .nilIface ∧ Aside0 (Rd w w' rb g off A D c pos k cur t)) ∨ (gk = 0 ∧ v6 = .int .i64 (k : Int) ∧ v7 = .iface 126 (.pointer (some aE)) ∧ Aside0 (Rd w w' rb g off A D c pos k cur t)))
  case atStart => exact Or.inl ⟨rfl, rfl, rfl, rfl⟩
  case round =>
    rcases hrel with ⟨rfl, rfl, rfl, rfl⟩ | ⟨rfl, rfl, rfl, HS⟩ | ⟨rfl, rfl, rfl, HS⟩
    · go_wp2
      go_region_law (first
        | (go_simp; go_at_call 97; with_reducible refine (HRS.out _ (Same.drew _)).mono ?_; rintro e w1 ⟨rfl, hs⟩; have HS : Aside0 (Rd wr w1 rb g off A D c pos k cur t) := ⟨⟨(Far.of_same (Same.drew _) _).trans hs.f, hs.g, hs.r⟩⟩; clear hs))
      all_goals (
        go_wp2
        go_roundg 1
        case measure => omega
        case rel => exact Or.inr (Or.inl ⟨rfl, by first | rfl | (rw [hwn]), rfl, HS⟩))
    · have HRW := Aside0.mk (HRE2.out _ HS.out)
      go_wp2
      go_region_law (first
        | (go_simp; go_at_call 97; with_reducible refine (HRW.out _ (Same.drew _)).mono ?_; rintro e w1 ⟨rfl, hs⟩; have HS2 : Aside0 (Rd w w1 rb g off A D c pos k cur t) := ⟨by
            have hss := (Same.drew wr).trans hs
            obtain ⟨pr', hr'⟩ := HS.out.r
            exact ⟨HS.out.f.trans (Far.of_same hss _), hss.blk HS.out.g, pr', hss.blk hr'⟩⟩; clear hs))
      all_goals (
        go_wp2
        go_roundg 0
        case measure => omega
        case rel => exact Or.inr (Or.inr ⟨rfl, by first | rfl | (rw [hwn]), rfl, HS2⟩))
    · obtain ⟨he, hu⟩ := HEE.out _ HS.out
      have heq := eqSame aE
      go_wp2
      go_ret2
      exact ⟨rfl, HS.out⟩
#print axioms atLeastPart

set_option maxHeartbeats 8000000 in
set_option maxRecDepth 100000 in
theorem fullPart (rb g off n cb : Nat) (A : Option Addr) (c : Nat) (D : List Int) (pos : Nat) (pr : Int) (cur : List Value) (t : Nat) (aE : Addr) (w : World) (hr : w.heap[rb]? = some (.cells (rdC A D c pos pr) 90 (0, 0))) (hg : w.heap[g]? = some (.cells cur.toArray t (0, 0))) (hne : rb ≠ g) (hfit : off + n ≤ cur.length) (hcb : n ≤ cb) (hD : Kd.C (Kd.int .u8) w A D.length D) (hDc : D.length ≤ c) (hE : w.cell? ⟨0, 0, none⟩ = some (.iface 126 (.pointer (some aE)))) (hn : 0 < n) (k : Nat) (aU : Addr) (hk : k = min n (D.length - pos)) (hpos : pos < D.length) (hpos2 : D.length < pos + n) (hU : w.cell? ⟨2, 0, none⟩ = some (.iface 126 (.pointer (some aU)))) (hs0 : g ≠ 0) (hs1 : rb ≠ 0) (hs2 : g ≠ 2) (hs3 : rb ≠ 2) :
    Calls Tryd.prog 42 #[.iface 69 (.pointer (some ⟨rb, 0, none⟩)), .slice (some ⟨g, off, none⟩) n cb] w fun e w' => e = .returned (.tuple #[.int .i64 (k : Int), .iface 126 (.pointer (some aU))]) ∧ Rd w w' rb g off A D c pos k cur t := by
  have HA := Aside0.mk (atLeastPart rb g off n cb A c D pos pr cur t aE w hr hg hne hfit hcb hD hDc hE hn k aU hk hpos hpos2 hU hs0 hs1 hs2 hs3)
  clear hr hg hne hfit hD hE hk hpos hpos2 hU
  go_enter Tryd.func42, Tryd.ntmps42
  go_wp2_with (first | (go_at_call 54; (with_reducible refine HA.out.mono ?_); rintro e w1 ⟨rfl, HQ⟩; have HQ2 := Aside0.mk HQ; clear HQ))
  go_ret2
  exact ⟨rfl, HQ2.out⟩
#print axioms fullPart

set_option maxHeartbeats 4000000 in
set_option maxRecDepth 100000 in
theorem fullZero (rb cb : Nat) (X : Option Addr) (w : World) :
    Calls Tryd.prog 42 #[.iface 69 (.pointer (some ⟨rb, 0, none⟩)), .slice X 0 cb] w fun e w' => e = .returned (.tuple #[.int .i64 0, .nilIface]) ∧ Same w w' := by
  have HA : Aside0 (Calls Tryd.prog 54 #[.iface 69 (.pointer (some ⟨rb, 0, none⟩)), .slice X 0 cb, .int .i64 0] w fun e w' => e = .returned (.tuple #[.int .i64 0, .nilIface]) ∧ Same w w') := ⟨by
    go_enter Tryd.func54, Tryd.ntmps54
    go_wp2
    go_loopg [6, 7] 0 (fun gk v6 v7 w' => v6 = .int .i64 0 ∧ v7 = .nilIface ∧ w' = w)
    case atStart => exact ⟨rfl, rfl, rfl⟩
    case round =>
      obtain ⟨rfl, rfl, rfl⟩ := hrel
      go_wp2
      go_ret2
      exact ⟨rfl, Same.refl _⟩⟩
  go_enter Tryd.func42, Tryd.ntmps42
  go_wp2_with (first | (go_at_call 54; (with_reducible refine HA.out.mono ?_); rintro e w1 ⟨rfl, HQ⟩; have HQ2 := Aside0.mk HQ; clear HQ))
  go_ret2
  exact ⟨rfl, HQ2.out⟩
#print axioms fullZero
end Go.Proofs.YtponeoodgfgejaaDoor.HandB
