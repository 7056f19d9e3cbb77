/- impl.EncodeTag, walked. -/
import Derived.Test.YtddnepddilbikaaDoorObjE
import Derived.Test.YtddnepddilbikaaDoorObjF
import Derived.Laws.Tables
set_option linter.unusedVariables false
set_option linter.unusedSimpArgs false
namespace Go.Proofs.YtddnepddilbikaaDoor.ObjG
open Go.RowKit Go.Proofs.YtddnepddilbikaaDoorW.PrintLast Go.Proofs.YtddnepddilbikaaDoorW.PrintMore Go.Proofs.YtddnepddilbikaaDoor.QAll SrtL ObjA ObjB ObjC ObjD ObjE ObjF
open Go.Proofs.YtddnepddilbikaaDoorW.PrintWords hiding nums

theorem built80 (tv : Nat → Int) (name nm em : ByteArray) (sec nsec z : Int) (msg pgp : ByteArray) (kind : Int) : Tryd.prog.built 80 [(6, .agg #[.int .u8 (tv 0), .int .u8 (tv 1), .int .u8 (tv 2), .int .u8 (tv 3), .int .u8 (tv 4), .int .u8 (tv 5), .int .u8 (tv 6), .int .u8 (tv 7), .int .u8 (tv 8), .int .u8 (tv 9), .int .u8 (tv 10), .int .u8 (tv 11), .int .u8 (tv 12), .int .u8 (tv 13), .int .u8 (tv 14), .int .u8 (tv 15), .int .u8 (tv 16), .int .u8 (tv 17), .int .u8 (tv 18), .int .u8 (tv 19)]), (5, .int .i8 kind), (1, .string name), (2, .agg #[.string nm, .string em, .int .i64 sec, .int .i64 nsec, .int .i64 z]), (3, .string msg), (4, .string pgp)] = some (tcells (fun _ => 0) tv name nm em sec nsec z msg pgp kind .nilIface) := by kernel_rfl
theorem built61 : Tryd.prog.built 61 [] = some (mcells 0 (.slice none 0 0) 0) := by kernel_rfl
def encTag1.T1 : Bool × List (List Nat × List Nat) := (true, [([], []), ([0], [0]), ([1], [1]), ([], []), ([3], [3]), ([4], [4]), ([], []), ([6], [6]), ([], []), ([8], [8]), ([9, 2], [9]), ([], []), ([11], [11]), ([], []), ([13], [13]), ([2, 5, 7, 10, 12, 14], [2, 5, 7, 10, 12, 14]), ([15], [15]), ([16, 10, 0, 1, 2, 3, 4, 5, 6, 7, 8, 9, 10, 11, 12, 13, 14, 15, 16], [16])])
def encTag1.B1 : List Nat := [0, 1, 3, 0, 8, 24, 0, 64, 0, 256, 775, 0, 2048, 0, 8192, 32767, 65535, 131071]
theorem encTag1.tab1 : rtab .any (opsOf Tryd.f13 1) = encTag1.T1 := by kernel_rfl
theorem encTag1.bits1 : waitsOk encTag1.T1.2 encTag1.B1 = true := by kernel_rfl
set_option maxHeartbeats 16000000 in
set_option maxRecDepth 100000 in
theorem encodeTag {tv : Nat → Int} {tg name nm em msg pgp ty : ByteArray} {when sec nsec z kind : Int} {ev : Value} {aE : Addr} (w : World)
    (hh : ∀ i, i < 20 → tv i = hb tg i) (hs : tg.size = 40) (hd : (dec tg).length = 20) (hhex : tg = hexOf tv) (htr : ∀ i, i < 20 → 0 ≤ tv i ∧ tv i < 256)
    (hk1 : 1 ≤ kind) (hk2 : kind ≤ 4) (hty : plumbing_ObjectType_String.f kind = some ty) (hsg : impl_signatureOf.f nm em when z = some (nm, em, sec, nsec, z))
    (hs0 : 62135596800 ≤ sec) (hs1 : sec ≤ 10000000000000) (hz : z.tmod 60 = 0) (h0 : -360000 < z) (h1 : z < 360000)
    (hl : (tagOut tg ty name nm em sec z msg pgp).length ≤ 900000000) (htab : ∀ W1, Below w.heap.size w W1 → Lib.TabIs Tryd.prog W1 "internal/strconv.uint64pow10" .u64 Lib.pow10Tab)
    (hE : w.cell? ⟨1, 0, none⟩ = some (.iface 134 (.pointer (some aE)))) (hE2 : w.cell? ⟨2, 0, none⟩ = some ev) :
    Calls Tryd.prog 13 #[.agg #[.string tg, .int .i64 kind, .string name, .string nm, .string em, .int .i64 when, .int .i64 z, .string msg, .string pgp]] w fun e w' => ∃ B d, e = .returned (.tuple #[.slice B (tagOut tg ty name nm em sec z msg pgp).length d, .bool true]) ∧ (tagOut tg ty name nm em sec z msg pgp).length ≤ d ∧ Kd.C (Kd.int .u8) w' B (tagOut tg ty name nm em sec z msg pgp).length (tagOut tg ty name nm em sec z msg pgp) ∧ Below w.heap.size w w' := by
  have HH := Aside0.mk hh
  have HG := Aside0.mk (And.intro hs hd)
  have HSG := Aside0.mk hsg
  have HE := Aside0.mk hE
  have HE2 := Aside0.mk hE2
  have HTE : Aside0 (∀ (W : World) (o g : Nat), Mo w W o 0 [] → W.heap[g]? = some (.cells (tcells (fun _ => 0) tv name nm em sec nsec z msg pgp kind .nilIface) 80 (0, 0)) → g ≠ o → Calls Tryd.prog 34 #[.pointer (some ⟨g, 0, none⟩), .iface 57 (.pointer (some ⟨o, 0, none⟩))] W fun e w' => e = .returned .nilIface ∧ Mo w w' o 4 (tagOut tg ty name nm em sec z msg pgp)) := ⟨fun W o g k1 k2 k3 => tagEncode2 k1 k2 k3 hhex htr hs hty hs0 hs1 hz h0 h1 hl htab⟩
  have HLL := Aside0.mk hl
  have hcv : ∀ W, (convert 3 59 (.int .i64 kind)).run Tryd.prog W = .ok (.int .i8 kind) W := fun W => by
    have e : IntKind.i8.wrap kind = kind := by
      rcases (show kind = 1 ∨ kind = 2 ∨ kind = 3 ∨ kind = 4 by omega) with rfl | rfl | rfl | rfl <;> rfl
    go_simp
    try rw [e]
  have hbd : ∀ W, (Instr.build 80 #[(6, .agg #[.int .u8 (tv 0), .int .u8 (tv 1), .int .u8 (tv 2), .int .u8 (tv 3), .int .u8 (tv 4), .int .u8 (tv 5), .int .u8 (tv 6), .int .u8 (tv 7), .int .u8 (tv 8), .int .u8 (tv 9), .int .u8 (tv 10), .int .u8 (tv 11), .int .u8 (tv 12), .int .u8 (tv 13), .int .u8 (tv 14), .int .u8 (tv 15), .int .u8 (tv 16), .int .u8 (tv 17), .int .u8 (tv 18), .int .u8 (tv 19)]), (5, .int .i8 kind), (1, .string name), (2, .agg #[.string nm, .string em, .int .i64 sec, .int .i64 nsec, .int .i64 z]), (3, .string msg), (4, .string pgp)]).run Tryd.prog W = .ok (.agg (tcells (fun _ => 0) tv name nm em sec nsec z msg pgp kind .nilIface)) W := fun W => run_build W 80 _ _ (built80 tv name nm em sec nsec z msg pgp kind)
  have hb61 : ∀ W, (Instr.build 61 #[]).run Tryd.prog W = .ok (.agg (mcells 0 (.slice none 0 0) 0)) W := fun W => run_build W 61 _ _ built61
  generalize tagOut tg ty name nm em sec z msg pgp = out at *
  clear hh hs hd hhex htr hk1 hk2 hty hsg hs0 hs1 hz h0 h1 hl htab hE hE2
  go_enter Tryd.func13, Tryd.ntmps13
  go_upto_region 1 with fail
  have hg0 : (w.alloc (.cells #[.string tg, .int .i64 kind, .string name, .string nm, .string em, .int .i64 when, .int .i64 z, .string msg, .string pgp] 32)).heap[w.heap.size]? = some (.cells #[.string tg, .int .i64 kind, .string name, .string nm, .string em, .int .i64 when, .int .i64 z, .string msg, .string pgp] 32 (0, 0)) := blk_new _ _
  have HBA : Aside0 (Below w.heap.size w (w.alloc (.cells #[.string tg, .int .i64 kind, .string name, .string nm, .string em, .int .i64 when, .int .i64 z, .string msg, .string pgp] 32))) := ⟨below_alloc (Below.refl _ _) _⟩
  generalize w.alloc (.cells #[.string tg, .int .i64 kind, .string name, .string nm, .string em, .int .i64 when, .int .i64 z, .string msg, .string pgp] 32) = wa at hg0 HBA ⊢
  obtain ⟨gb, hgb⟩ : ∃ gb, gb = w.heap.size := ⟨_, rfl⟩
  rw [← hgb] at hg0
  simp only [← hgb]
  clear hgb
  have q0 : Below w.heap.size w wa.drew := HBA.out.trans ((below_drew1 (Below.refl _ _)).mono HBA.out.size)
  have q1 : wa.drew.cell? ⟨gb, 0, none⟩ = some (.string tg) := (blk_cell hg0 0).trans rfl
  have q2 : wa.drew.cell? ⟨gb, 1, none⟩ = some (.int .i64 kind) := (blk_cell hg0 1).trans rfl
  have q3 : wa.drew.cell? ⟨gb, 2, none⟩ = some (.string name) := (blk_cell hg0 2).trans rfl
  have q4 : wa.drew.cell? ⟨gb, 3, none⟩ = some (.string nm) := (blk_cell hg0 3).trans rfl
  have q5 : wa.drew.cell? ⟨gb, 4, none⟩ = some (.string em) := (blk_cell hg0 4).trans rfl
  have q6 : wa.drew.cell? ⟨gb, 5, none⟩ = some (.int .i64 when) := (blk_cell hg0 5).trans rfl
  have q7 : wa.drew.cell? ⟨gb, 6, none⟩ = some (.int .i64 z) := (blk_cell hg0 6).trans rfl
  have q8 : wa.drew.cell? ⟨gb, 7, none⟩ = some (.string msg) := (blk_cell hg0 7).trans rfl
  have q9 : wa.drew.cell? ⟨gb, 8, none⟩ = some (.string pgp) := (blk_cell hg0 8).trans rfl
  clear hg0
  refine start_ (n := 18) (S := fun w' => Below w.heap.size w w' ∧ w'.cell? ⟨gb, 0, none⟩ = some (.string tg) ∧ w'.cell? ⟨gb, 1, none⟩ = some (.int .i64 kind) ∧ w'.cell? ⟨gb, 2, none⟩ = some (.string name) ∧ w'.cell? ⟨gb, 3, none⟩ = some (.string nm) ∧ w'.cell? ⟨gb, 4, none⟩ = some (.string em) ∧ w'.cell? ⟨gb, 5, none⟩ = some (.int .i64 when) ∧ w'.cell? ⟨gb, 6, none⟩ = some (.int .i64 z) ∧ w'.cell? ⟨gb, 7, none⟩ = some (.string msg) ∧ w'.cell? ⟨gb, 8, none⟩ = some (.string pgp)) (ds := [16]) #[false, false, false, false, false, false, false, false, false, false, false, false, false, false, false, false, false, false] (by kernel_rfl) rfl rfl ⟨q0, q1, q2, q3, q4, q5, q6, q7, q8, q9⟩ (fun hHeld => ?_)
  refine with_tabW encTag1.tab1 encTag1.bits1 (fun HT_ HW_ => ?_)
  generalize World.drew _ = wd at hHeld ⊢
  refine pure_ (i := 0) (N := some 6) (v := ?_) (a' := ?_) #[true, false, false, false, false, false, false, false, false, false, false, false, false, false, false, false, false, false] rfl rfl (any_of HT_.out (by kernel_rfl)) (fun _ _ _ h => h) (Or.inl ⟨by rfl, ?_⟩) ?_ ?_
  rotate_left
  · intro w'
    go_simp
    with_reducible rfl
  rotate_left
  · simp only [Act.put, List.setIfInBounds_toArray, List.set_cons_zero, List.set_cons_succ, i64_w, i32_w]
    rfl
  refine pure_ (i := 3) (N := some 9) (v := ?_) (a' := ?_) #[true, false, false, true, false, false, false, false, false, false, false, false, false, false, false, false, false, false] rfl rfl (any_of HT_.out (by kernel_rfl)) (fun _ _ _ h => h) (Or.inl ⟨by rfl, ?_⟩) ?_ ?_
  rotate_left
  · intro w'
    go_simp
    with_reducible rfl
  rotate_left
  · simp only [Act.put, List.setIfInBounds_toArray, List.set_cons_zero, List.set_cons_succ, i64_w, i32_w]
    rfl
  refine pure_ (i := 6) (N := some 12) (v := ?_) (a' := ?_) #[true, false, false, true, false, false, true, false, false, false, false, false, false, false, false, false, false, false] rfl rfl (any_of HT_.out (by kernel_rfl)) (fun _ _ _ h => h) (Or.inl ⟨by rfl, ?_⟩) ?_ ?_
  rotate_left
  · intro w'
    go_simp
    with_reducible rfl
  rotate_left
  · simp only [Act.put, List.setIfInBounds_toArray, List.set_cons_zero, List.set_cons_succ, i64_w, i32_w]
    rfl
  refine pure_ (i := 8) (N := some 14) (v := ?_) (a' := ?_) #[true, false, false, true, false, false, true, false, true, false, false, false, false, false, false, false, false, false] rfl rfl (any_of HT_.out (by kernel_rfl)) (fun _ _ _ h => h) (Or.inl ⟨by rfl, ?_⟩) ?_ ?_
  rotate_left
  · intro w'
    go_simp
    with_reducible rfl
  rotate_left
  · simp only [Act.put, List.setIfInBounds_toArray, List.set_cons_zero, List.set_cons_succ, i64_w, i32_w]
    rfl
  refine pure_ (i := 11) (N := some 17) (v := ?_) (a' := ?_) #[true, false, false, true, false, false, true, false, true, false, false, true, false, false, false, false, false, false] rfl rfl (any_of HT_.out (by kernel_rfl)) (fun _ _ _ h => h) (Or.inl ⟨by rfl, ?_⟩) ?_ ?_
  rotate_left
  · intro w'
    go_simp
    with_reducible rfl
  rotate_left
  · simp only [Act.put, List.setIfInBounds_toArray, List.set_cons_zero, List.set_cons_succ, i64_w, i32_w]
    rfl
  refine pure_ (i := 13) (N := some 19) (v := ?_) (a' := ?_) #[true, false, false, true, false, false, true, false, true, false, false, true, false, true, false, false, false, false] rfl rfl (any_of HT_.out (by kernel_rfl)) (fun _ _ _ h => h) (Or.inl ⟨by rfl, ?_⟩) ?_ ?_
  rotate_left
  · intro w'
    go_simp
    with_reducible rfl
  rotate_left
  · simp only [Act.put, List.setIfInBounds_toArray, List.set_cons_zero, List.set_cons_succ, i64_w, i32_w]
    rfl
  refine take_ (i := 1) (N := some 7) (v := ?_) (a' := ?_) #[true, true, false, true, false, false, true, false, true, false, false, true, false, true, false, false, false, false] rfl rfl (take_ofW HT_.out HW_.out (by kernel_rfl)) (fun _ _ _ h => h) (Or.inl ⟨by rfl, ?_⟩) hHeld ?_ ?_
  rotate_left
  · rintro w' ⟨s0, s1, s2, s3, s4, s5, s6, s7, s8, s9⟩
    go_simp
    with_reducible rfl
  rotate_left
  · simp only [Act.put, List.setIfInBounds_toArray, List.set_cons_zero, List.set_cons_succ, i64_w, i32_w]
    rfl
  refine take_ (i := 4) (N := some 10) (v := ?_) (a' := ?_) #[true, true, false, true, true, false, true, false, true, false, false, true, false, true, false, false, false, false] rfl rfl (take_ofW HT_.out HW_.out (by kernel_rfl)) (fun _ _ _ h => h) (Or.inl ⟨by rfl, ?_⟩) hHeld ?_ ?_
  rotate_left
  · rintro w' ⟨s0, s1, s2, s3, s4, s5, s6, s7, s8, s9⟩
    go_simp
    with_reducible rfl
  rotate_left
  · simp only [Act.put, List.setIfInBounds_toArray, List.set_cons_zero, List.set_cons_succ, i64_w, i32_w]
    rfl
  refine pure_ (i := 5) (N := some 11) (v := ?_) (a' := ?_) #[true, true, false, true, true, true, true, false, true, false, false, true, false, true, false, false, false, false] rfl rfl (any_of HT_.out (by kernel_rfl)) (fun _ _ _ h => h) (Or.inl ⟨by rfl, ?_⟩) ?_ ?_
  rotate_left
  · intro w'
    go_simp
    with_reducible rfl
  rotate_left
  · simp only [Act.put, List.setIfInBounds_toArray, List.set_cons_zero, List.set_cons_succ, i64_w, i32_w]
    rfl
  refine take_ (i := 7) (N := some 13) (v := ?_) (a' := ?_) #[true, true, false, true, true, true, true, true, true, false, false, true, false, true, false, false, false, false] rfl rfl (take_ofW HT_.out HW_.out (by kernel_rfl)) (fun _ _ _ h => h) (Or.inl ⟨by rfl, ?_⟩) hHeld ?_ ?_
  rotate_left
  · rintro w' ⟨s0, s1, s2, s3, s4, s5, s6, s7, s8, s9⟩
    go_simp
    with_reducible rfl
  rotate_left
  · simp only [Act.put, List.setIfInBounds_toArray, List.set_cons_zero, List.set_cons_succ, i64_w, i32_w]
    rfl
  refine take_ (i := 9) (N := some 15) (v := ?_) (a' := ?_) #[true, true, false, true, true, true, true, true, true, true, false, true, false, true, false, false, false, false] rfl rfl (take_ofW HT_.out HW_.out (by kernel_rfl)) (fun _ _ _ h => h) (Or.inl ⟨by rfl, ?_⟩) hHeld ?_ ?_
  rotate_left
  · rintro w' ⟨s0, s1, s2, s3, s4, s5, s6, s7, s8, s9⟩
    go_simp
    with_reducible rfl
  rotate_left
  · simp only [Act.put, List.setIfInBounds_toArray, List.set_cons_zero, List.set_cons_succ, i64_w, i32_w]
    rfl
  refine take_ (i := 12) (N := some 18) (v := ?_) (a' := ?_) #[true, true, false, true, true, true, true, true, true, true, false, true, true, true, false, false, false, false] rfl rfl (take_ofW HT_.out HW_.out (by kernel_rfl)) (fun _ _ _ h => h) (Or.inl ⟨by rfl, ?_⟩) hHeld ?_ ?_
  rotate_left
  · rintro w' ⟨s0, s1, s2, s3, s4, s5, s6, s7, s8, s9⟩
    go_simp
    with_reducible rfl
  rotate_left
  · simp only [Act.put, List.setIfInBounds_toArray, List.set_cons_zero, List.set_cons_succ, i64_w, i32_w]
    rfl
  refine take_ (i := 14) (N := some 20) (v := ?_) (a' := ?_) #[true, true, false, true, true, true, true, true, true, true, false, true, true, true, true, false, false, false] rfl rfl (take_ofW HT_.out HW_.out (by kernel_rfl)) (fun _ _ _ h => h) (Or.inl ⟨by rfl, ?_⟩) hHeld ?_ ?_
  rotate_left
  · rintro w' ⟨s0, s1, s2, s3, s4, s5, s6, s7, s8, s9⟩
    go_simp
    with_reducible rfl
  rotate_left
  · simp only [Act.put, List.setIfInBounds_toArray, List.set_cons_zero, List.set_cons_succ, i64_w, i32_w]
    rfl
  refine one_ (i := 2) (N := some 8) #[true, true, true, true, true, true, true, true, true, true, false, true, true, true, true, false, false, false] rfl rfl (one_of HT_.out (by kernel_rfl)) (by decide) (fun K hK => ?_)
  refine goes_ Tryd.func32 (by kernel_rfl) rfl #[.string tg] (by rfl) rfl rfl (by simp only [List.map_toArray, List.map_cons, List.map_nil]; rfl) ?_
  with_reducible refine ((newHash tg tv HH.out ev _ (pw_cell_below hHeld.1 HE2.out) HG.out.1 HG.out.2)).mono ?_
  rintro e w7 ⟨rfl, hb7⟩
  refine ⟨_, rfl, ?_⟩
  refine hK.out _ _ ⟨(hHeld.1.trans (hb7.mono hHeld.1.size)), (pw_cell_below hb7 hHeld.2.1), (pw_cell_below hb7 hHeld.2.2.1), (pw_cell_below hb7 hHeld.2.2.2.1), (pw_cell_below hb7 hHeld.2.2.2.2.1), (pw_cell_below hb7 hHeld.2.2.2.2.2.1), (pw_cell_below hb7 hHeld.2.2.2.2.2.2.1), (pw_cell_below hb7 hHeld.2.2.2.2.2.2.2.1), (pw_cell_below hb7 hHeld.2.2.2.2.2.2.2.2.1), (pw_cell_below hb7 hHeld.2.2.2.2.2.2.2.2.2)⟩ (fun hHeld => ?_)
  clear hK K
  refine norm_ (a' := ?_) ?_ ?_
  rotate_left
  · show Act.put _ (some 8) _ = _
    simp only [Act.put, List.setIfInBounds_toArray, List.set_cons_zero, List.set_cons_succ, i64_w, i32_w]
    rfl
  refine one_ (i := 10) (N := some 16) #[true, true, true, true, true, true, true, true, true, true, true, true, true, true, true, false, false, false] rfl rfl (one_of HT_.out (by kernel_rfl)) (by decide) (fun K hK => ?_)
  refine goes_ Tryd.func33 (by kernel_rfl) rfl #[.agg #[.string nm, .string em, .int .i64 when, .int .i64 z]] (by rfl) rfl rfl (by simp only [List.map_toArray, List.map_cons, List.map_nil]; rfl) ?_
  with_reducible refine ((impl_signatureOf.calls nm em when z nm em sec nsec z _ HSG.out)).mono ?_
  rintro e w8 ⟨rfl, hb8⟩
  refine ⟨_, rfl, ?_⟩
  refine hK.out _ _ ⟨(hHeld.1.trans (hb8.mono hHeld.1.size)), (pw_cell_below hb8 hHeld.2.1), (pw_cell_below hb8 hHeld.2.2.1), (pw_cell_below hb8 hHeld.2.2.2.1), (pw_cell_below hb8 hHeld.2.2.2.2.1), (pw_cell_below hb8 hHeld.2.2.2.2.2.1), (pw_cell_below hb8 hHeld.2.2.2.2.2.2.1), (pw_cell_below hb8 hHeld.2.2.2.2.2.2.2.1), (pw_cell_below hb8 hHeld.2.2.2.2.2.2.2.2.1), (pw_cell_below hb8 hHeld.2.2.2.2.2.2.2.2.2)⟩ (fun hHeld => ?_)
  clear hK K
  refine norm_ (a' := ?_) ?_ ?_
  rotate_left
  · show Act.put _ (some 16) _ = _
    simp only [Act.put, List.setIfInBounds_toArray, List.set_cons_zero, List.set_cons_succ, i64_w, i32_w]
    rfl
  refine pure_ (i := 15) (N := some 21) (v := ?_) (a' := ?_) #[true, true, true, true, true, true, true, true, true, true, true, true, true, true, true, true, false, false] rfl rfl (any_of HT_.out (by kernel_rfl)) (fun _ _ _ h => h) (Or.inl ⟨by rfl, ?_⟩) ?_ ?_
  rotate_left
  · intro w'
    go_simp
    with_reducible rfl
  rotate_left
  · simp only [Act.put, List.setIfInBounds_toArray, List.set_cons_zero, List.set_cons_succ, i64_w, i32_w]
    rfl
  refine last_ (i := 16) (N := some 22) #[true, true, true, true, true, true, true, true, true, true, true, true, true, true, true, true, true, false] rfl rfl (one_of HT_.out (by kernel_rfl)) (by decide) (fun K hK => ?_)
  have HS9 := Aside0.mk hHeld.1
  refine value_ (w1 := ?_) (v := ?_) (by rfl) rfl ?_ ?_
  rotate_left 2
  · go_simp
    constructor
    · rfl
    · rfl
  refine hK.out _ _ ?_
  clear hK K
  refine norm_ (a' := ?_) ?_ ?_
  rotate_left
  · show Act.put _ (some 22) _ = _
    simp only [Act.put, List.setIfInBounds_toArray, List.set_cons_zero, List.set_cons_succ, i64_w, i32_w]
    rfl
  refine pure_ (i := 17) (N := some 4) (v := ?_) (a' := ?_) #[true, true, true, true, true, true, true, true, true, true, true, true, true, true, true, true, true, true] rfl rfl (any_of HT_.out (by kernel_rfl)) (fun _ _ _ h => h) (Or.inl ⟨by rfl, ?_⟩) ?_ ?_
  rotate_left
  · intro w'
    go_simp
    with_reducible rfl
  rotate_left
  · simp only [Act.put, List.setIfInBounds_toArray, List.set_cons_zero, List.set_cons_succ, i64_w, i32_w]
    rfl
  refine done_ (done_of HT_.out (by kernel_rfl)) ?_
  have hgt : (w8.alloc (.cells #[.int .u8 0, .int .u8 0, .int .u8 0, .int .u8 0, .int .u8 0, .int .u8 0, .int .u8 0, .int .u8 0, .int .u8 0, .int .u8 0, .int .u8 0, .int .u8 0, .int .u8 0, .int .u8 0, .int .u8 0, .int .u8 0, .int .u8 0, .int .u8 0, .int .u8 0, .int .u8 0, .string name, .string nm, .string em, .int .i64 sec, .int .i64 nsec, .int .i64 z, .string msg, .string pgp, .int .i8 kind, .int .u8 (tv 0), .int .u8 (tv 1), .int .u8 (tv 2), .int .u8 (tv 3), .int .u8 (tv 4), .int .u8 (tv 5), .int .u8 (tv 6), .int .u8 (tv 7), .int .u8 (tv 8), .int .u8 (tv 9), .int .u8 (tv 10), .int .u8 (tv 11), .int .u8 (tv 12), .int .u8 (tv 13), .int .u8 (tv 14), .int .u8 (tv 15), .int .u8 (tv 16), .int .u8 (tv 17), .int .u8 (tv 18), .int .u8 (tv 19), .nilIface, .nilIface] 80)).heap[w8.heap.size]? = some (.cells (tcells (fun _ => 0) tv name nm em sec nsec z msg pgp kind .nilIface) 80 (0, 0)) := blk_new _ _
  have HB9 : Aside0 (Below w.heap.size w (w8.alloc (.cells #[.int .u8 0, .int .u8 0, .int .u8 0, .int .u8 0, .int .u8 0, .int .u8 0, .int .u8 0, .int .u8 0, .int .u8 0, .int .u8 0, .int .u8 0, .int .u8 0, .int .u8 0, .int .u8 0, .int .u8 0, .int .u8 0, .int .u8 0, .int .u8 0, .int .u8 0, .int .u8 0, .string name, .string nm, .string em, .int .i64 sec, .int .i64 nsec, .int .i64 z, .string msg, .string pgp, .int .i8 kind, .int .u8 (tv 0), .int .u8 (tv 1), .int .u8 (tv 2), .int .u8 (tv 3), .int .u8 (tv 4), .int .u8 (tv 5), .int .u8 (tv 6), .int .u8 (tv 7), .int .u8 (tv 8), .int .u8 (tv 9), .int .u8 (tv 10), .int .u8 (tv 11), .int .u8 (tv 12), .int .u8 (tv 13), .int .u8 (tv 14), .int .u8 (tv 15), .int .u8 (tv 16), .int .u8 (tv 17), .int .u8 (tv 18), .int .u8 (tv 19), .nilIface, .nilIface] 80))) := ⟨HS9.out.trans ((below_alloc (Below.refl _ _) _).mono HS9.out.size)⟩
  generalize w8.alloc (.cells #[.int .u8 0, .int .u8 0, .int .u8 0, .int .u8 0, .int .u8 0, .int .u8 0, .int .u8 0, .int .u8 0, .int .u8 0, .int .u8 0, .int .u8 0, .int .u8 0, .int .u8 0, .int .u8 0, .int .u8 0, .int .u8 0, .int .u8 0, .int .u8 0, .int .u8 0, .int .u8 0, .string name, .string nm, .string em, .int .i64 sec, .int .i64 nsec, .int .i64 z, .string msg, .string pgp, .int .i8 kind, .int .u8 (tv 0), .int .u8 (tv 1), .int .u8 (tv 2), .int .u8 (tv 3), .int .u8 (tv 4), .int .u8 (tv 5), .int .u8 (tv 6), .int .u8 (tv 7), .int .u8 (tv 8), .int .u8 (tv 9), .int .u8 (tv 10), .int .u8 (tv 11), .int .u8 (tv 12), .int .u8 (tv 13), .int .u8 (tv 14), .int .u8 (tv 15), .int .u8 (tv 16), .int .u8 (tv 17), .int .u8 (tv 18), .int .u8 (tv 19), .nilIface, .nilIface] 80) = w9 at hgt HB9 ⊢
  obtain ⟨gt, hgte⟩ : ∃ gt, gt = w8.heap.size := ⟨_, rfl⟩
  rw [← hgte] at hgt
  simp only [← hgte]
  clear hgte HS9
  have HGT := Aside0.mk hgt
  clear hgt
  go_upto_region 3 with fail
  have hbox : (w9.alloc (.cells #[.int .i8 0, .int .u8 0, .int .u8 0, .int .u8 0, .int .u8 0, .int .u8 0, .int .u8 0, .int .u8 0, .int .u8 0, .int .u8 0, .int .u8 0, .int .u8 0, .int .u8 0, .int .u8 0, .int .u8 0, .int .u8 0, .int .u8 0, .int .u8 0, .int .u8 0, .int .u8 0, .int .u8 0, .slice none 0 0, .int .i64 0] 61)).heap[w9.heap.size]? = some (.cells (mcells 0 (.slice none 0 0) 0) 61 (0, 0)) := blk_new _ _
  have hb : Below w9.heap.size w9 (w9.alloc (.cells #[.int .i8 0, .int .u8 0, .int .u8 0, .int .u8 0, .int .u8 0, .int .u8 0, .int .u8 0, .int .u8 0, .int .u8 0, .int .u8 0, .int .u8 0, .int .u8 0, .int .u8 0, .int .u8 0, .int .u8 0, .int .u8 0, .int .u8 0, .int .u8 0, .int .u8 0, .int .u8 0, .int .u8 0, .slice none 0 0, .int .i64 0] 61)) := below_alloc (Below.refl _ _) _
  generalize w9.alloc (.cells #[.int .i8 0, .int .u8 0, .int .u8 0, .int .u8 0, .int .u8 0, .int .u8 0, .int .u8 0, .int .u8 0, .int .u8 0, .int .u8 0, .int .u8 0, .int .u8 0, .int .u8 0, .int .u8 0, .int .u8 0, .int .u8 0, .int .u8 0, .int .u8 0, .int .u8 0, .int .u8 0, .int .u8 0, .slice none 0 0, .int .i64 0] 61) = w10 at hbox hb ⊢
  obtain ⟨o, ho⟩ : ∃ o, o = w9.heap.size := ⟨_, rfl⟩
  simp only [← ho] at hbox ⊢
  have HO : Aside0 (Mo w w10 o 0 [] ∧ w10.heap[gt]? = some (.cells (tcells (fun _ => 0) tv name nm em sec nsec z msg pgp kind .nilIface) 80 (0, 0)) ∧ gt ≠ o) := ⟨⟨.slice none 0 0, hbox, Kd.R_nil _ _ _ _ _, HB9.out.trans (hb.mono HB9.out.size), by rw [ho]; exact HB9.out.size⟩, (hb.block gt (blk_lt HGT.out)).trans HGT.out, by have := blk_lt HGT.out; omega⟩
  clear ho hbox hb
  go_wp2_with (first
    | (go_at_call 34
       (with_reducible refine (HTE.out _ _ _ HO.out.1 HO.out.2.1 HO.out.2.2).mono ?_)
       rintro x w11 ⟨rfl, k⟩
       have K := Aside0.mk k
       clear k)
    | (go_at_call 24
       (with_reducible refine (textOf K.out aE (pw_cell_below K.out.bel HE.out) HLL.out).mono ?_)
       rintro x w12 ⟨B, d, rfl, k1, k2, k3⟩
       have F := Aside0.mk (And.intro k1 (And.intro k2 k3))
       clear k1 k2 k3)
    | fail)
  go_ret2
  exact ⟨B, d, rfl, F.out.1, F.out.2.1, K.out.bel.trans (F.out.2.2.mono K.out.bel.size)⟩
end Go.Proofs.YtddnepddilbikaaDoor.ObjG
