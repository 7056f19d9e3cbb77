/- Scanner.Scan, walked: at the end, and where a number breaks off. -/
import Derived.Test.YtoidakilalebmaaDoorHandF
set_option linter.unusedVariables false
set_option linter.unusedSimpArgs false
namespace Go.Proofs.YtoidakilalebmaaDoor.HandG
open Go.RowKit Go.Proofs.YtoidakilalebmaaDoorW.PrintWords Go.Proofs.YtoidakilalebmaaDoorW.PrintLast Go.Proofs.YtoidakilalebmaaDoorW.PrintMore Go.Proofs.YtoidakilalebmaaDoor.QAll Txt PureA HandA HandB HandC HandD HandE HandF

def scan3.T3 : Bool × List (List Nat × List Nat) := (true, [([], []), ([0], [0]), ([1], [1]), ([2], [2]), ([], []), ([3, 4], [3, 4])])
def scan3.B3 : List Nat := [0, 1, 3, 7, 0, 31]
theorem scan3.tab3 : rtab .any (opsOf Tryd.f16 3) = scan3.T3 := by kernel_rfl
theorem scan3.bits3 : waitsOk scan3.T3.2 scan3.B3 = true := by kernel_rfl

def scan10.T10 : Bool × List (List Nat × List Nat) := (true, [([], []), ([], []), ([1], [1]), ([2], [2]), ([3], [3]), ([], []), ([5], [5]), ([6], [6]), ([7], [7]), ([], []), ([8, 9], [8, 9]), ([4, 10], [4, 10]), ([11], [11]), ([12], [12]), ([12], [12]), ([0, 0, 1, 2, 3, 4, 5, 6, 7, 8, 9, 10, 11, 12, 13, 14], [0]), ([15, 0, 1, 2, 3, 4, 5, 6, 7, 8, 9, 10, 11, 12, 13, 14], [15]), ([16, 14, 11, 0, 1, 2, 3, 4, 5, 6, 7, 8, 9, 10, 11, 12, 13, 14], [14, 16])])
def scan10.B10 : List Nat := [0, 0, 2, 6, 14, 0, 32, 96, 224, 0, 992, 2046, 4094, 8190, 8190, 32767, 65535, 131071]
theorem scan10.tab10 : rtab .any (opsOf Tryd.f16 10) = scan10.T10 := by kernel_rfl
theorem scan10.bits10 : waitsOk scan10.T10.2 scan10.B10 = true := by kernel_rfl

def scan14.T14 : Bool × List (List Nat × List Nat) := (true, [([], []), ([0], [0]), ([1], [1]), ([2], [2]), ([], []), ([3, 4, 4], [3, 4])])
def scan14.B14 : List Nat := [0, 1, 3, 7, 0, 31]
theorem scan14.tab14 : rtab .any (opsOf Tryd.f16 14) = scan14.T14 := by kernel_rfl
theorem scan14.bits14 : waitsOk scan14.T14.2 scan14.B14 = true := by kernel_rfl

set_option maxHeartbeats 8000000 in
set_option maxRecDepth 100000 in
theorem scanEnd (w0 : World) (sc rb : Nat) (A : Option Addr) (D : List Int) (c pos : Nat) (eV : Value) (X : Option Addr) (n cb : Nat) (ds : List Value) (aE aU aI : Addr) (w : World) (h : St w0 w sc rb A D c pos eV (.slice X n cb) ds) (hs : Sent w0 aE aU aI) (hD : Dat w0 A D c) (hpos : pos = D.length) :
    Calls Tryd.prog 16 #[.pointer (some ⟨sc, 0, none⟩)] w fun e w' => e = .returned (.bool false) ∧ ∃ ds', St w0 w' sc rb A D c pos .nilIface (.slice X n cb) ds' ∧ Far w w' (fun i => i = sc ∨ i = rb) := by
  have HR := Aside0.mk (rplEnd w0 sc rb A D c pos eV (.slice X n cb) ds aE aU aI w h hs hD hpos)
  have HST := Aside0.mk h
  have HS0 := Aside0.mk hs
  clear h hs hD hpos
  go_enter Tryd.func16, Tryd.ntmps16
  go_upto_region 3 with (first | (go_at_call 20; (with_reducible refine HR.out.mono ?_); rintro e w1 ⟨rfl, hq⟩; have HS1 := Aside0.mk (HST.out.same hq); have HF1 := Aside0.mk (Far.of_same hq (fun i => i = sc ∨ i = rb)); clear hq; have hc1_ := (St_cells HS1.out).2.1; have hz1_ := (St_cells HS1.out).2.2.2.1))
  have HS2 := Aside0.mk (St_err HS1.out (.iface 102 (.pointer (some aE))))
  have HF2 : Aside0 (Far w (w1.setCell ⟨sc, 1, none⟩ (.iface 102 (.pointer (some aE)))) (fun i => i = sc ∨ i = rb)) := ⟨HF1.out.set (Or.inl rfl) _⟩
  clear hc1_ hz1_
  generalize w1.setCell ⟨sc, 1, none⟩ (.iface 102 (.pointer (some aE))) = w2 at HS2 HF2 ⊢
  have HC1 := Aside0.mk (St_cells HS2.out).2.1
  have hsw2 := HS0.out.below HS2.out.b
  have HCE := Aside0.mk hsw2.e
  clear hsw2
  have HEQ : Aside0 (∀ W, Same w2 W → (binOp .eql 37 (.iface 102 (.pointer (some aE))) (.iface 102 (.pointer (some aE)))).run Tryd.prog W = .ok (.bool true) W) := ⟨fun W _ => eqSame aE W⟩
  refine start_ (n := 6) (S := fun w' => Same w2 w' ∧ w'.cell? ⟨sc, 1, none⟩ = some ((.iface 102 (.pointer (some aE)))) ∧ w'.cell? ⟨0, 0, none⟩ = some (.iface 102 (.pointer (some aE))) ∧ (binOp .eql 37 ((.iface 102 (.pointer (some aE)))) (.iface 102 (.pointer (some aE)))).run Tryd.prog w' = .ok (.bool true) w') (ds := []) #[false, false, false, false, false, false] (by kernel_rfl) rfl rfl ⟨(Same.drew _), (Same.cell (Same.drew _) HC1.out), (Same.cell (Same.drew _) HCE.out), (HEQ.out _ (Same.drew _))⟩ (fun hHeld => ?_)
  refine with_tabW scan3.tab3 scan3.bits3 (fun HT_ HW_ => ?_)
  generalize World.drew _ = we at hHeld ⊢
  refine pure_ (i := 0) (N := some 12) (v := ?_) (a' := ?_) #[true, false, false, false, false, false] rfl rfl (any_of HT_.out (by kernel_rfl)) (fun _ _ _ h => h) (Or.inl ⟨by rfl, ?_⟩) ?_ ?_
  rotate_left
  · intro w'
    go_simp
    with_reducible rfl
  rotate_left
  · simp only [Act.put, List.setIfInBounds_toArray, List.set_cons_zero, List.set_cons_succ, i64_w, i32_w]
    rfl
  refine pure_ (i := 1) (N := some 13) (v := ?_) (a' := ?_) #[true, true, false, false, false, false] rfl rfl (any_of HT_.out (by kernel_rfl)) (fun _ _ _ h => h) (Or.inl ⟨by rfl, ?_⟩) ?_ ?_
  rotate_left
  · intro w'
    go_simp
    with_reducible rfl
  rotate_left
  · simp only [Act.put, List.setIfInBounds_toArray, List.set_cons_zero, List.set_cons_succ, i64_w, i32_w]
    rfl
  refine pure_ (i := 2) (N := some 14) (v := ?_) (a' := ?_) #[true, true, true, false, false, false] rfl rfl (any_of HT_.out (by kernel_rfl)) (fun _ _ _ h => h) (Or.inl ⟨by rfl, ?_⟩) ?_ ?_
  rotate_left
  · intro w'
    go_simp
    with_reducible rfl
  rotate_left
  · simp only [Act.put, List.setIfInBounds_toArray, List.set_cons_zero, List.set_cons_succ, i64_w, i32_w]
    rfl
  refine take_ (i := 3) (N := some 15) (v := ?_) (a' := ?_) #[true, true, true, true, false, false] rfl rfl (take_ofW HT_.out HW_.out (by kernel_rfl)) (fun _ _ _ h => h) (Or.inl ⟨by rfl, ?_⟩) hHeld ?_ ?_
  rotate_left
  · rintro w' ⟨s0, s1, s2, s3⟩
    go_simp
    with_reducible rfl
  rotate_left
  · simp only [Act.put, List.setIfInBounds_toArray, List.set_cons_zero, List.set_cons_succ, i64_w, i32_w]
    rfl
  refine take_ (i := 4) (N := some 16) (v := ?_) (a' := ?_) #[true, true, true, true, true, false] rfl rfl (take_ofW HT_.out HW_.out (by kernel_rfl)) (fun _ _ _ h => h) (Or.inl ⟨by rfl, ?_⟩) hHeld ?_ ?_
  rotate_left
  · rintro w' ⟨s0, s1, s2, s3⟩
    go_simp
    with_reducible rfl
  rotate_left
  · simp only [Act.put, List.setIfInBounds_toArray, List.set_cons_zero, List.set_cons_succ, i64_w, i32_w]
    rfl
  refine take_ (i := 5) (N := some 17) (v := ?_) (a' := ?_) #[true, true, true, true, true, true] rfl rfl (take_ofW HT_.out HW_.out (by kernel_rfl)) (fun _ _ _ h => h) (Or.inl ⟨by rfl, ?_⟩) hHeld ?_ ?_
  rotate_left
  · rintro w' ⟨s0, s1, s2, s3⟩
    go_simp
    with_reducible rfl
  rotate_left
  · simp only [Act.put, List.setIfInBounds_toArray, List.set_cons_zero, List.set_cons_succ, i64_w, i32_w]
    rfl
  refine done_ (done_of HT_.out (by kernel_rfl)) ?_
  have HF3 : Aside0 (Same w2 we) := ⟨hHeld.1⟩
  clear hHeld
  have HS3 := Aside0.mk (HS2.out.same HF3.out)
  have HFF := Aside0.mk (HF2.out.trans (Far.of_same HF3.out _))
  have hc1_ := (St_cells HS3.out).2.1
  have hz1_ := (St_cells HS3.out).2.2.2.1
  go_wp2
  go_ret
  exact ⟨rfl, _, St_err HS3.out _, HFF.out.set (Or.inl rfl) _⟩
#print axioms scanEnd

set_option maxHeartbeats 8000000 in
set_option maxRecDepth 100000 in
theorem scanPart (w0 : World) (sc rb : Nat) (A : Option Addr) (D : List Int) (c pos : Nat) (eV : Value) (X : Option Addr) (n cb : Nat) (ds : List Value) (aE aU aI : Addr) (w : World) (h : St w0 w sc rb A D c pos eV (.slice X n cb) ds) (hs : Sent w0 aE aU aI) (hD : Dat w0 A D c) (k : Nat) (hk : k = D.length - pos) (hk0 : 0 < k) (hk4 : k < 4) :
    Calls Tryd.prog 16 #[.pointer (some ⟨sc, 0, none⟩)] w fun e w' => e = .returned (.bool false) ∧ ∃ ds', St w0 w' sc rb A D c (pos + k) (.iface 102 (.pointer (some aI))) (.slice X n cb) ds' ∧ Far w w' (fun i => i = sc ∨ i = rb) := by
  have HR := Aside0.mk (rplPart w0 sc rb A D c pos eV (.slice X n cb) ds aE aU aI w h hs hD k hk hk0 hk4)
  have HST := Aside0.mk h
  have HS0 := Aside0.mk hs
  clear h hs hD hk hk0 hk4
  go_enter Tryd.func16, Tryd.ntmps16
  go_upto_region 3 with (first | (go_at_call 20; (with_reducible refine HR.out.mono ?_); rintro e w1 ⟨rfl, ds1, hq, hf⟩; have HS1 := Aside0.mk hq; have HF1 := Aside0.mk hf; clear hq hf; have hc1_ := (St_cells HS1.out).2.1; have hz1_ := (St_cells HS1.out).2.2.2.1))
  have HS2 := Aside0.mk (St_err HS1.out (.iface 102 (.pointer (some aI))))
  have HF2 : Aside0 (Far w (w1.setCell ⟨sc, 1, none⟩ (.iface 102 (.pointer (some aI)))) (fun i => i = sc ∨ i = rb)) := ⟨HF1.out.set (Or.inl rfl) _⟩
  clear hc1_ hz1_
  generalize w1.setCell ⟨sc, 1, none⟩ (.iface 102 (.pointer (some aI))) = w2 at HS2 HF2 ⊢
  have HC1 := Aside0.mk (St_cells HS2.out).2.1
  have hsw2 := HS0.out.below HS2.out.b
  have HCE := Aside0.mk hsw2.e
  have HEQ : Aside0 (∀ W, Same w2 W → (binOp .eql 37 (.iface 102 (.pointer (some aI))) (.iface 102 (.pointer (some aE)))).run Tryd.prog W = .ok (.bool false) W) := ⟨fun W hW => by
    obtain ⟨c1, t1, b1⟩ := hsw2.bi
    obtain ⟨c2, t2, b2⟩ := hsw2.be
    exact eqOther W hsw2.ie (hW.blk b1) (hW.blk b2)⟩
  clear hsw2
  refine start_ (n := 6) (S := fun w' => Same w2 w' ∧ w'.cell? ⟨sc, 1, none⟩ = some ((.iface 102 (.pointer (some aI)))) ∧ w'.cell? ⟨0, 0, none⟩ = some (.iface 102 (.pointer (some aE))) ∧ (binOp .eql 37 ((.iface 102 (.pointer (some aI)))) (.iface 102 (.pointer (some aE)))).run Tryd.prog w' = .ok (.bool false) w') (ds := []) #[false, false, false, false, false, false] (by kernel_rfl) rfl rfl ⟨(Same.drew _), (Same.cell (Same.drew _) HC1.out), (Same.cell (Same.drew _) HCE.out), (HEQ.out _ (Same.drew _))⟩ (fun hHeld => ?_)
  refine with_tabW scan3.tab3 scan3.bits3 (fun HT_ HW_ => ?_)
  generalize World.drew _ = we at hHeld ⊢
  refine pure_ (i := 0) (N := some 12) (v := ?_) (a' := ?_) #[true, false, false, false, false, false] rfl rfl (any_of HT_.out (by kernel_rfl)) (fun _ _ _ h => h) (Or.inl ⟨by rfl, ?_⟩) ?_ ?_
  rotate_left
  · intro w'
    go_simp
    with_reducible rfl
  rotate_left
  · simp only [Act.put, List.setIfInBounds_toArray, List.set_cons_zero, List.set_cons_succ, i64_w, i32_w]
    rfl
  refine pure_ (i := 1) (N := some 13) (v := ?_) (a' := ?_) #[true, true, false, false, false, false] rfl rfl (any_of HT_.out (by kernel_rfl)) (fun _ _ _ h => h) (Or.inl ⟨by rfl, ?_⟩) ?_ ?_
  rotate_left
  · intro w'
    go_simp
    with_reducible rfl
  rotate_left
  · simp only [Act.put, List.setIfInBounds_toArray, List.set_cons_zero, List.set_cons_succ, i64_w, i32_w]
    rfl
  refine pure_ (i := 2) (N := some 14) (v := ?_) (a' := ?_) #[true, true, true, false, false, false] rfl rfl (any_of HT_.out (by kernel_rfl)) (fun _ _ _ h => h) (Or.inl ⟨by rfl, ?_⟩) ?_ ?_
  rotate_left
  · intro w'
    go_simp
    with_reducible rfl
  rotate_left
  · simp only [Act.put, List.setIfInBounds_toArray, List.set_cons_zero, List.set_cons_succ, i64_w, i32_w]
    rfl
  refine take_ (i := 3) (N := some 15) (v := ?_) (a' := ?_) #[true, true, true, true, false, false] rfl rfl (take_ofW HT_.out HW_.out (by kernel_rfl)) (fun _ _ _ h => h) (Or.inl ⟨by rfl, ?_⟩) hHeld ?_ ?_
  rotate_left
  · rintro w' ⟨s0, s1, s2, s3⟩
    go_simp
    with_reducible rfl
  rotate_left
  · simp only [Act.put, List.setIfInBounds_toArray, List.set_cons_zero, List.set_cons_succ, i64_w, i32_w]
    rfl
  refine take_ (i := 4) (N := some 16) (v := ?_) (a' := ?_) #[true, true, true, true, true, false] rfl rfl (take_ofW HT_.out HW_.out (by kernel_rfl)) (fun _ _ _ h => h) (Or.inl ⟨by rfl, ?_⟩) hHeld ?_ ?_
  rotate_left
  · rintro w' ⟨s0, s1, s2, s3⟩
    go_simp
    with_reducible rfl
  rotate_left
  · simp only [Act.put, List.setIfInBounds_toArray, List.set_cons_zero, List.set_cons_succ, i64_w, i32_w]
    rfl
  refine take_ (i := 5) (N := some 17) (v := ?_) (a' := ?_) #[true, true, true, true, true, true] rfl rfl (take_ofW HT_.out HW_.out (by kernel_rfl)) (fun _ _ _ h => h) (Or.inl ⟨by rfl, ?_⟩) hHeld ?_ ?_
  rotate_left
  · rintro w' ⟨s0, s1, s2, s3⟩
    go_simp
    with_reducible rfl
  rotate_left
  · simp only [Act.put, List.setIfInBounds_toArray, List.set_cons_zero, List.set_cons_succ, i64_w, i32_w]
    rfl
  refine done_ (done_of HT_.out (by kernel_rfl)) ?_
  have HF3 : Aside0 (Same w2 we) := ⟨hHeld.1⟩
  clear hHeld
  have HS3 := Aside0.mk (HS2.out.same HF3.out)
  have HFF := Aside0.mk (HF2.out.trans (Far.of_same HF3.out _))
  have hc1_ := (St_cells HS3.out).2.1
  have hz1_ := (St_cells HS3.out).2.2.2.1
  go_wp2
  go_ret
  exact ⟨rfl, _, HS3.out, HFF.out⟩
#print axioms scanPart

end Go.Proofs.YtoidakilalebmaaDoor.HandG
