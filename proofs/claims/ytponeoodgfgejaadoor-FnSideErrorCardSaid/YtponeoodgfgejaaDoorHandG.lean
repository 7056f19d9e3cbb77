/- Scanner.Scan, walked: at the end, and where a number breaks off. Scanner.Scan, walked where a number is read: the payload is there, or breaks off. bytes.NewReader, pktline.NewScanner, Scanner.Bytes, Scanner.Err, walked. -/
import Derived.Test.YtponeoodgfgejaaDoorHandF
set_option linter.unusedVariables false
set_option linter.unusedSimpArgs false
namespace Go.Proofs.YtponeoodgfgejaaDoor.HandG
open Go.RowKit Go.Proofs.YtponeoodgfgejaaDoorW.PrintWords Go.Proofs.YtponeoodgfgejaaDoorW.PrintLast Go.Proofs.YtponeoodgfgejaaDoorW.PrintMore Go.Proofs.YtponeoodgfgejaaDoor.QAll Txt PureA HandA HandB HandC HandD HandE HandF

def scan3.T3 : Bool × List (List Nat × List Nat) := (true, [([], []), ([0], [0]), ([1], [1]), ([2], [2]), ([], []), ([3, 4], [3, 4])])
def scan3.B3 : List Nat := [0, 1, 3, 7, 0, 31]
theorem scan3.tab3 : rtab .any (opsOf Tryd.f30 3) = scan3.T3 := by kernel_rfl
theorem scan3.bits3 : waitsOk scan3.T3.2 scan3.B3 = true := by kernel_rfl

def scan10.T10 : Bool × List (List Nat × List Nat) := (true, [([], []), ([], []), ([1], [1]), ([2], [2]), ([3], [3]), ([], []), ([5], [5]), ([6], [6]), ([7], [7]), ([], []), ([8, 9], [8, 9]), ([4, 10], [4, 10]), ([11], [11]), ([12], [12]), ([12], [12]), ([0, 0, 1, 2, 3, 4, 5, 6, 7, 8, 9, 10, 11, 12, 13, 14], [0]), ([15, 0, 1, 2, 3, 4, 5, 6, 7, 8, 9, 10, 11, 12, 13, 14], [15]), ([16, 14, 11, 0, 1, 2, 3, 4, 5, 6, 7, 8, 9, 10, 11, 12, 13, 14], [14, 16])])
def scan10.B10 : List Nat := [0, 0, 2, 6, 14, 0, 32, 96, 224, 0, 992, 2046, 4094, 8190, 8190, 32767, 65535, 131071]
theorem scan10.tab10 : rtab .any (opsOf Tryd.f30 10) = scan10.T10 := by kernel_rfl
theorem scan10.bits10 : waitsOk scan10.T10.2 scan10.B10 = true := by kernel_rfl

def scan14.T14 : Bool × List (List Nat × List Nat) := (true, [([], []), ([0], [0]), ([1], [1]), ([2], [2]), ([], []), ([3, 4, 4], [3, 4])])
def scan14.B14 : List Nat := [0, 1, 3, 7, 0, 31]
theorem scan14.tab14 : rtab .any (opsOf Tryd.f30 14) = scan14.T14 := by kernel_rfl
theorem scan14.bits14 : waitsOk scan14.T14.2 scan14.B14 = true := by kernel_rfl

set_option maxHeartbeats 8000000 in
set_option maxRecDepth 100000 in
theorem scanEnd (w0 : World) (sc rb : Nat) (A : Option Addr) (D : List Int) (c pos : Nat) (eV : Value) (X : Option Addr) (n cb : Nat) (ds : List Value) (aE aU aI : Addr) (w : World) (h : St w0 w sc rb A D c pos eV (.slice X n cb) ds) (hs : Sent w0 aE aU aI) (hD : Dat w0 A D c) (hpos : pos = D.length) :
    Calls Tryd.prog 30 #[.pointer (some ⟨sc, 0, none⟩)] w fun e w' => e = .returned (.bool false) ∧ ∃ ds', St w0 w' sc rb A D c pos .nilIface (.slice X n cb) ds' ∧ Far w w' (fun i => i = sc ∨ i = rb) := by
  have HR := Aside0.mk (rplEnd w0 sc rb A D c pos eV (.slice X n cb) ds aE aU aI w h hs hD hpos)
  have HST := Aside0.mk h
  have HS0 := Aside0.mk hs
  clear h hs hD hpos
  go_enter Tryd.func30, Tryd.ntmps30
  go_upto_region 3 with (first | (go_at_call 41; (with_reducible refine HR.out.mono ?_); rintro e w1 ⟨rfl, hq⟩; have HS1 := Aside0.mk (HST.out.same hq); have HF1 := Aside0.mk (Far.of_same hq (fun i => i = sc ∨ i = rb)); clear hq; have hc1_ := (St_cells HS1.out).2.1; have hz1_ := (St_cells HS1.out).2.2.2.1))
  have HS2 := Aside0.mk (St_err HS1.out (.iface 126 (.pointer (some aE))))
  have HF2 : Aside0 (Far w (w1.setCell ⟨sc, 1, none⟩ (.iface 126 (.pointer (some aE)))) (fun i => i = sc ∨ i = rb)) := ⟨HF1.out.set (Or.inl rfl) _⟩
  clear hc1_ hz1_
  generalize w1.setCell ⟨sc, 1, none⟩ (.iface 126 (.pointer (some aE))) = w2 at HS2 HF2 ⊢
  have HC1 := Aside0.mk (St_cells HS2.out).2.1
  have hsw2 := HS0.out.below HS2.out.b
  have HCE := Aside0.mk hsw2.e
  clear hsw2
  have HEQ : Aside0 (∀ W, Same w2 W → (binOp .eql 58 (.iface 126 (.pointer (some aE))) (.iface 126 (.pointer (some aE)))).run Tryd.prog W = .ok (.bool true) W) := ⟨fun W _ => eqSame aE W⟩
  refine start_ (n := 6) (S := fun w' => Same w2 w' ∧ w'.cell? ⟨sc, 1, none⟩ = some ((.iface 126 (.pointer (some aE)))) ∧ w'.cell? ⟨0, 0, none⟩ = some (.iface 126 (.pointer (some aE))) ∧ (binOp .eql 58 ((.iface 126 (.pointer (some aE)))) (.iface 126 (.pointer (some aE)))).run Tryd.prog w' = .ok (.bool true) w') (ds := []) #[false, false, false, false, false, false] (by kernel_rfl) rfl rfl ⟨(Same.drew _), (Same.cell (Same.drew _) HC1.out), (Same.cell (Same.drew _) HCE.out), (HEQ.out _ (Same.drew _))⟩ (fun hHeld => ?_)
  refine with_tabW scan3.tab3 scan3.bits3 (fun HT_ HW_ => ?_)
  generalize World.drew _ = we at hHeld ⊢
  refine pure_ (i := 0) (N := some 12) (v := ?_) (a' := ?_) #[true, false, false, false, false, false] rfl rfl (any_of HT_.out (by kernel_rfl)) (fun _ _ _ h => h) (Or.inl ⟨by rfl, ?_⟩) ?_ ?_
  rotate_left
  · intro w'
    go_simp
    with_reducible rfl
  rotate_left
  · simp only [Act.put, List.setIfInBounds_toArray, List.set_cons_zero, List.set_cons_succ, i64_w, i32_w]
    rfl
  refine pure_ (i := 1) (N := some 13) (v := ?_) (a' := ?_) #[true, true, false, false, false, false] rfl rfl (any_of HT_.out (by kernel_rfl)) (fun _ _ _ h => h) (Or.inl ⟨by rfl, ?_⟩) ?_ ?_
  rotate_left
  · intro w'
    go_simp
    with_reducible rfl
  rotate_left
  · simp only [Act.put, List.setIfInBounds_toArray, List.set_cons_zero, List.set_cons_succ, i64_w, i32_w]
    rfl
  refine pure_ (i := 2) (N := some 14) (v := ?_) (a' := ?_) #[true, true, true, false, false, false] rfl rfl (any_of HT_.out (by kernel_rfl)) (fun _ _ _ h => h) (Or.inl ⟨by rfl, ?_⟩) ?_ ?_
  rotate_left
  · intro w'
    go_simp
    with_reducible rfl
  rotate_left
  · simp only [Act.put, List.setIfInBounds_toArray, List.set_cons_zero, List.set_cons_succ, i64_w, i32_w]
    rfl
  refine take_ (i := 3) (N := some 15) (v := ?_) (a' := ?_) #[true, true, true, true, false, false] rfl rfl (take_ofW HT_.out HW_.out (by kernel_rfl)) (fun _ _ _ h => h) (Or.inl ⟨by rfl, ?_⟩) hHeld ?_ ?_
  rotate_left
  · rintro w' ⟨s0, s1, s2, s3⟩
    go_simp
    with_reducible rfl
  rotate_left
  · simp only [Act.put, List.setIfInBounds_toArray, List.set_cons_zero, List.set_cons_succ, i64_w, i32_w]
    rfl
  refine take_ (i := 4) (N := some 16) (v := ?_) (a' := ?_) #[true, true, true, true, true, false] rfl rfl (take_ofW HT_.out HW_.out (by kernel_rfl)) (fun _ _ _ h => h) (Or.inl ⟨by rfl, ?_⟩) hHeld ?_ ?_
  rotate_left
  · rintro w' ⟨s0, s1, s2, s3⟩
    go_simp
    with_reducible rfl
  rotate_left
  · simp only [Act.put, List.setIfInBounds_toArray, List.set_cons_zero, List.set_cons_succ, i64_w, i32_w]
    rfl
  refine take_ (i := 5) (N := some 17) (v := ?_) (a' := ?_) #[true, true, true, true, true, true] rfl rfl (take_ofW HT_.out HW_.out (by kernel_rfl)) (fun _ _ _ h => h) (Or.inl ⟨by rfl, ?_⟩) hHeld ?_ ?_
  rotate_left
  · rintro w' ⟨s0, s1, s2, s3⟩
    go_simp
    with_reducible rfl
  rotate_left
  · simp only [Act.put, List.setIfInBounds_toArray, List.set_cons_zero, List.set_cons_succ, i64_w, i32_w]
    rfl
  refine done_ (done_of HT_.out (by kernel_rfl)) ?_
  have HF3 : Aside0 (Same w2 we) := ⟨hHeld.1⟩
  clear hHeld
  have HS3 := Aside0.mk (HS2.out.same HF3.out)
  have HFF := Aside0.mk (HF2.out.trans (Far.of_same HF3.out _))
  have hc1_ := (St_cells HS3.out).2.1
  have hz1_ := (St_cells HS3.out).2.2.2.1
  go_wp2
  go_ret
  exact ⟨rfl, _, St_err HS3.out _, HFF.out.set (Or.inl rfl) _⟩
#print axioms scanEnd

set_option maxHeartbeats 8000000 in
set_option maxRecDepth 100000 in
theorem scanPart (w0 : World) (sc rb : Nat) (A : Option Addr) (D : List Int) (c pos : Nat) (eV : Value) (X : Option Addr) (n cb : Nat) (ds : List Value) (aE aU aI : Addr) (w : World) (h : St w0 w sc rb A D c pos eV (.slice X n cb) ds) (hs : Sent w0 aE aU aI) (hD : Dat w0 A D c) (k : Nat) (hk : k = D.length - pos) (hk0 : 0 < k) (hk4 : k < 4) :
    Calls Tryd.prog 30 #[.pointer (some ⟨sc, 0, none⟩)] w fun e w' => e = .returned (.bool false) ∧ ∃ ds', St w0 w' sc rb A D c (pos + k) (.iface 126 (.pointer (some aI))) (.slice X n cb) ds' ∧ Far w w' (fun i => i = sc ∨ i = rb) := by
  have HR := Aside0.mk (rplPart w0 sc rb A D c pos eV (.slice X n cb) ds aE aU aI w h hs hD k hk hk0 hk4)
  have HST := Aside0.mk h
  have HS0 := Aside0.mk hs
  clear h hs hD hk hk0 hk4
  go_enter Tryd.func30, Tryd.ntmps30
  go_upto_region 3 with (first | (go_at_call 41; (with_reducible refine HR.out.mono ?_); rintro e w1 ⟨rfl, ds1, hq, hf⟩; have HS1 := Aside0.mk hq; have HF1 := Aside0.mk hf; clear hq hf; have hc1_ := (St_cells HS1.out).2.1; have hz1_ := (St_cells HS1.out).2.2.2.1))
  have HS2 := Aside0.mk (St_err HS1.out (.iface 126 (.pointer (some aI))))
  have HF2 : Aside0 (Far w (w1.setCell ⟨sc, 1, none⟩ (.iface 126 (.pointer (some aI)))) (fun i => i = sc ∨ i = rb)) := ⟨HF1.out.set (Or.inl rfl) _⟩
  clear hc1_ hz1_
  generalize w1.setCell ⟨sc, 1, none⟩ (.iface 126 (.pointer (some aI))) = w2 at HS2 HF2 ⊢
  have HC1 := Aside0.mk (St_cells HS2.out).2.1
  have hsw2 := HS0.out.below HS2.out.b
  have HCE := Aside0.mk hsw2.e
  have HEQ : Aside0 (∀ W, Same w2 W → (binOp .eql 58 (.iface 126 (.pointer (some aI))) (.iface 126 (.pointer (some aE)))).run Tryd.prog W = .ok (.bool false) W) := ⟨fun W hW => by
    obtain ⟨c1, t1, b1⟩ := hsw2.bi
    obtain ⟨c2, t2, b2⟩ := hsw2.be
    exact eqOther W hsw2.ie (hW.blk b1) (hW.blk b2)⟩
  clear hsw2
  refine start_ (n := 6) (S := fun w' => Same w2 w' ∧ w'.cell? ⟨sc, 1, none⟩ = some ((.iface 126 (.pointer (some aI)))) ∧ w'.cell? ⟨0, 0, none⟩ = some (.iface 126 (.pointer (some aE))) ∧ (binOp .eql 58 ((.iface 126 (.pointer (some aI)))) (.iface 126 (.pointer (some aE)))).run Tryd.prog w' = .ok (.bool false) w') (ds := []) #[false, false, false, false, false, false] (by kernel_rfl) rfl rfl ⟨(Same.drew _), (Same.cell (Same.drew _) HC1.out), (Same.cell (Same.drew _) HCE.out), (HEQ.out _ (Same.drew _))⟩ (fun hHeld => ?_)
  refine with_tabW scan3.tab3 scan3.bits3 (fun HT_ HW_ => ?_)
  generalize World.drew _ = we at hHeld ⊢
  refine pure_ (i := 0) (N := some 12) (v := ?_) (a' := ?_) #[true, false, false, false, false, false] rfl rfl (any_of HT_.out (by kernel_rfl)) (fun _ _ _ h => h) (Or.inl ⟨by rfl, ?_⟩) ?_ ?_
  rotate_left
  · intro w'
    go_simp
    with_reducible rfl
  rotate_left
  · simp only [Act.put, List.setIfInBounds_toArray, List.set_cons_zero, List.set_cons_succ, i64_w, i32_w]
    rfl
  refine pure_ (i := 1) (N := some 13) (v := ?_) (a' := ?_) #[true, true, false, false, false, false] rfl rfl (any_of HT_.out (by kernel_rfl)) (fun _ _ _ h => h) (Or.inl ⟨by rfl, ?_⟩) ?_ ?_
  rotate_left
  · intro w'
    go_simp
    with_reducible rfl
  rotate_left
  · simp only [Act.put, List.setIfInBounds_toArray, List.set_cons_zero, List.set_cons_succ, i64_w, i32_w]
    rfl
  refine pure_ (i := 2) (N := some 14) (v := ?_) (a' := ?_) #[true, true, true, false, false, false] rfl rfl (any_of HT_.out (by kernel_rfl)) (fun _ _ _ h => h) (Or.inl ⟨by rfl, ?_⟩) ?_ ?_
  rotate_left
  · intro w'
    go_simp
    with_reducible rfl
  rotate_left
  · simp only [Act.put, List.setIfInBounds_toArray, List.set_cons_zero, List.set_cons_succ, i64_w, i32_w]
    rfl
  refine take_ (i := 3) (N := some 15) (v := ?_) (a' := ?_) #[true, true, true, true, false, false] rfl rfl (take_ofW HT_.out HW_.out (by kernel_rfl)) (fun _ _ _ h => h) (Or.inl ⟨by rfl, ?_⟩) hHeld ?_ ?_
  rotate_left
  · rintro w' ⟨s0, s1, s2, s3⟩
    go_simp
    with_reducible rfl
  rotate_left
  · simp only [Act.put, List.setIfInBounds_toArray, List.set_cons_zero, List.set_cons_succ, i64_w, i32_w]
    rfl
  refine take_ (i := 4) (N := some 16) (v := ?_) (a' := ?_) #[true, true, true, true, true, false] rfl rfl (take_ofW HT_.out HW_.out (by kernel_rfl)) (fun _ _ _ h => h) (Or.inl ⟨by rfl, ?_⟩) hHeld ?_ ?_
  rotate_left
  · rintro w' ⟨s0, s1, s2, s3⟩
    go_simp
    with_reducible rfl
  rotate_left
  · simp only [Act.put, List.setIfInBounds_toArray, List.set_cons_zero, List.set_cons_succ, i64_w, i32_w]
    rfl
  refine take_ (i := 5) (N := some 17) (v := ?_) (a' := ?_) #[true, true, true, true, true, true] rfl rfl (take_ofW HT_.out HW_.out (by kernel_rfl)) (fun _ _ _ h => h) (Or.inl ⟨by rfl, ?_⟩) hHeld ?_ ?_
  rotate_left
  · rintro w' ⟨s0, s1, s2, s3⟩
    go_simp
    with_reducible rfl
  rotate_left
  · simp only [Act.put, List.setIfInBounds_toArray, List.set_cons_zero, List.set_cons_succ, i64_w, i32_w]
    rfl
  refine done_ (done_of HT_.out (by kernel_rfl)) ?_
  have HF3 : Aside0 (Same w2 we) := ⟨hHeld.1⟩
  clear hHeld
  have HS3 := Aside0.mk (HS2.out.same HF3.out)
  have HFF := Aside0.mk (HF2.out.trans (Far.of_same HF3.out _))
  have hc1_ := (St_cells HS3.out).2.1
  have hz1_ := (St_cells HS3.out).2.2.2.1
  go_wp2
  go_ret
  exact ⟨rfl, _, HS3.out, HFF.out⟩
#print axioms scanPart

end Go.Proofs.YtponeoodgfgejaaDoor.HandG

set_option linter.unusedVariables false
set_option linter.unusedSimpArgs false
namespace Go.Proofs.YtponeoodgfgejaaDoor.HandH
open Go.RowKit Go.Proofs.YtponeoodgfgejaaDoorW.PrintWords Go.Proofs.YtponeoodgfgejaaDoorW.PrintLast Go.Proofs.YtponeoodgfgejaaDoorW.PrintMore Go.Proofs.YtponeoodgfgejaaDoor.QAll Txt PureA HandA HandB HandC HandD HandE HandF HandG

theorem eqNil (W : World) (v : Value) : (binOp .eql 58 .nilIface (.iface 126 v)).run Tryd.prog W = .ok (.bool false) W := by
  have h : Tryd.prog.underlying 58 = some (.interface (Tryd.prog.methodsAt 58)) := by
    unfold Program.methodsAt
    rw [Tryd.underlying58]
  have h2 : ∀ d, (Op.equalIn (d + 1) 58 .nilIface (.iface 126 v)).run Tryd.prog W = .ok false W := fun d => by simp [Op.equalIn, run_underlying h]
  have h3 : (Op.equal 58 .nilIface (.iface 126 v)).run Tryd.prog W = .ok false W := h2 9999
  simp only [binOp]
  simp [h3]
theorem _root_.Go.Proofs.YtponeoodgfgejaaDoor.HandF.Pay.to {B : Nat} {w : World} {sc rb : Nat} {X : Option Addr} {n n' cb : Nat} (h : Pay B w sc rb X n cb) (hn : n' ≤ cb) : Pay B w sc rb X n' cb := ⟨h.z, h.s, hn⟩
theorem _root_.Go.Proofs.YtponeoodgfgejaaDoor.HandF.Pay.below {B : Nat} {w w' : World} {sc rb : Nat} {X : Option Addr} {n cb : Nat} (h : Pay B w sc rb X n cb) (hb : Below w.heap.size w w') : Pay B w' sc rb X n cb := h.far (Far.of_below hb _)
theorem C_zero (W : World) (X : Option Addr) (l : List Int) : Kd.C (Kd.int .u8) W X 0 (l.take 0) := ⟨rfl, by decide, fun h => absurd h (by decide)⟩
/-- Bytes in a payload's row, behind a store elsewhere. -/
theorem C_far {B : Nat} {w : World} {sc rb : Nat} {X : Option Addr} {n cb : Nat} {l : List Int} (h : Kd.C (Kd.int .u8) w X n l) (hp : Pay B w sc rb X n cb) {p : Addr} (hpb : p.block = sc) {v : Value} : Kd.C (Kd.int .u8) (w.setCell p v) X n l := by
  refine ⟨h.1, h.2.1, fun hn => ?_⟩
  obtain ⟨ad, e, hc⟩ := h.2.2 hn
  obtain ⟨g, cur, rfl, hb, hs, _, hgs, _⟩ := hp.s ad e
  refine ⟨_, e, fun j p' hj => ?_⟩
  obtain ⟨cs, h1, h2, h3⟩ := hc j p' hj
  refine ⟨cs, h1, h2, fun i u hu => ?_⟩
  refine (World.cell?_of_block ?_).trans (h3 i u hu)
  have e2 : ((⟨g, 0, none⟩ : Addr).add (j * (Kd.int .u8).sz + i)).block = g := by unfold Addr.add; split <;> simp_all
  rw [e2]
  exact Below.heap_setCell w p v g (by rw [hpb]; exact hgs)
theorem splice_len (cur : List Value) (off : Nat) (cs : List Value) (h : off + cs.length ≤ cur.length) : (splice cur off cs).length = cur.length := by
  unfold splice
  simp only [List.length_append, List.length_take, List.length_drop]
  omega
theorem splice_seg (cur : List Value) (D : List Int) (pos k j : Nat) (x : Int) (h : ((D.drop pos).take k)[j]? = some x) : (splice cur 0 (seg D pos k))[0 + j]? = some (.int .u8 x) := by
  unfold splice
  have hj : j < (seg D pos k).length := by
    have := (List.getElem?_eq_some_iff.1 h).1
    unfold seg
    rw [List.length_map]
    exact this
  rw [List.take_zero, List.nil_append]
  show (seg D pos k ++ _)[0 + j]? = _
  rw [show 0 + j = j from Nat.zero_add j, List.getElem?_append_left hj]
  unfold seg
  rw [List.getElem?_map, h]
  rfl
section
variable {w5 : World} {g cb sc rb m B : Nat} {l : List Int} {v : Value}
theorem row_C (h : ∃ C : Array Value, w5.heap[g]? = some (.cells C 5 (0, 0)) ∧ C.size = cb ∧ ∀ j x, (l.take m)[j]? = some x → C.toList[0 + j]? = some (.int .u8 x)) (hs : g ≠ sc) (hm : m ≤ 65516) (hl : (l.take m).length = m) : Kd.C (Kd.int .u8) (w5.setCell ⟨sc, 1, none⟩ v) (some ⟨g, 0, none⟩) m (l.take m) := by
  obtain ⟨C, h1, h2, h3⟩ := h
  have := C_blk (w := w5.setCell ⟨sc, 1, none⟩ v) (g := g) (off := 0) (cur := C.toList) (fr := (0, 0)) (xs := l.take m) (blk_far h1 (by exact hs) _) (by rw [hl]; omega) h3
  rw [hl] at this
  exact this
theorem row_P (h : ∃ C : Array Value, w5.heap[g]? = some (.cells C 5 (0, 0)) ∧ C.size = cb ∧ ∀ j x, (l.take m)[j]? = some x → C.toList[0 + j]? = some (.int .u8 x)) (hs : g ≠ sc) (hr : g ≠ rb) (hB : B ≤ g) (hm : m ≤ cb) : Pay B (w5.setCell ⟨sc, 1, none⟩ v) sc rb (some ⟨g, 0, none⟩) m cb := by
  obtain ⟨C, h1, h2, h3⟩ := h
  exact ⟨fun q => (by cases q), fun ad q => (by cases q; exact ⟨g, C, rfl, blk_far h1 (by exact hs) _, h2, hB, hs, hr⟩), hm⟩
end
/-- What a Read leaves, the row's bytes aside. -/
structure RdE (w w' : World) (rb g : Nat) (A : Option Addr) (D : List Int) (c pos k : Nat) : Prop where
  f : Far w w' (fun i => i = g ∨ i = rb)
  r : ∃ pr, w'.heap[rb]? = some (.cells (rdC A D c (pos + k) pr) 90 (0, 0))
theorem St_bodyE {w0 w w' : World} {sc rb g : Nat} {A : Option Addr} {D : List Int} {c pos k : Nat} {eV PV : Value} {ds : List Value} (h : St w0 w sc rb A D c pos eV PV ds) (hr : RdE w w' rb g A D c pos k) (hg : g ≠ sc) (hb : w0.heap.size ≤ g) : St w0 w' sc rb A D c (pos + k) eV PV ds :=
  ⟨h.b.trans (hr.f.below h.b.size (fun i hi => by rcases hi with rfl | rfl; exact hb; exact h.br)), hr.f.keep h.s (fun q => by rcases q with q | q; exact hg q.symm; exact h.ne q.symm), hr.r, h.ne, h.bs, h.br, h.dl⟩
set_option maxHeartbeats 8000000 in
set_option maxRecDepth 100000 in
theorem scanAll (w0 : World) (sc rb : Nat) (A : Option Addr) (D : List Int) (c pos : Nat) (eV : Value) (X : Option Addr) (n cb : Nat) (ds : List Value) (aE aU aI : Addr) (w : World) (h : St w0 w sc rb A D c pos eV (.slice X n cb) ds) (hs : Sent w0 aE aU aI) (hD : Dat w0 A D c) (hP : Pay w0.heap.size w sc rb X n cb) (d0 d1 d2 d3 : Int) (hpos : pos + 4 ≤ D.length) (hseg : seg D pos 4 = [.int .u8 d0, .int .u8 d1, .int .u8 d2, .int .u8 d3]) (h0 : Dg d0) (h1 : Dg d1) (h2 : Dg d2) (h3 : Dg d3) (m : Nat) (hm : (hexv d0 d1 d2 d3 = 0 ∧ m = 0) ∨ (5 ≤ hexv d0 d1 d2 d3 ∧ hexv d0 d1 d2 d3 ≤ 65520 ∧ (m : Int) = hexv d0 d1 d2 d3 - 4)) (hfit : pos + 4 + m ≤ D.length) (hno : ¬ (strOfNums (((D.drop (pos + 4)).take m).take 4)).toList = (strOfNums [69, 82, 82, 32]).toList) :
    Calls Tryd.prog 30 #[.pointer (some ⟨sc, 0, none⟩)] w fun e w' => e = .returned (.bool true) ∧ ∃ X' cb' ds', St w0 w' sc rb A D c (pos + 4 + m) .nilIface (.slice X' m cb') ds' ∧ Pay w0.heap.size w' sc rb X' m cb' ∧ Kd.C (Kd.int .u8) w' X' m ((D.drop (pos + 4)).take m) ∧ Far w w' (fun i => i = sc ∨ i = rb ∨ ∃ ad, X = some ad ∧ i = ad.block) ∧ (∀ ad, X' = some ad → X = some ad ∨ w.heap.size ≤ ad.block) := by
  have HST := Aside0.mk h
  have HS0 := Aside0.mk hs
  have HD := Aside0.mk hD
  have HP := Aside0.mk hP
  have HPOS := Aside0.mk hpos
  have HR := Aside0.mk (rplAll w0 sc rb A D c pos eV (.slice X n cb) ds aE aU aI w h hs hD d0 d1 d2 d3 hpos hseg h0 h1 h2 h3 m hm)
  have hm6 : m ≤ 65516 := by omega
  have HNO := Aside0.mk hno
  clear hno
  clear h hs hD hP hpos hseg h0 h1 h2 h3 hm
  go_enter Tryd.func30, Tryd.ntmps30
  go_upto_region 3 with (first | (go_at_call 41; (with_reducible refine HR.out.mono ?_); rintro e w1 ⟨rfl, ds1, hq, hf⟩; have HS1 := Aside0.mk hq; have HF1 := Aside0.mk hf; clear hq hf; have hc1_ := (St_cells HS1.out).2.1; have hz1_ := (St_cells HS1.out).2.2.2.1))
  have HS2 := Aside0.mk (St_err HS1.out .nilIface)
  have HF2 : Aside0 (Far w (w1.setCell ⟨sc, 1, none⟩ .nilIface) (fun i => i = sc ∨ i = rb)) := ⟨HF1.out.set (Or.inl rfl) _⟩
  clear hc1_ hz1_
  generalize w1.setCell ⟨sc, 1, none⟩ .nilIface = w2 at HS2 HF2 ⊢
  have HC1 := Aside0.mk (St_cells HS2.out).2.1
  have hsw2 := HS0.out.below HS2.out.b
  have HCE := Aside0.mk hsw2.e
  clear hsw2
  have HEQ : Aside0 (∀ W, Same w2 W → (binOp .eql 58 .nilIface (.iface 126 (.pointer (some aE)))).run Tryd.prog W = .ok (.bool false) W) := ⟨fun W _ => eqNil W _⟩
  refine start_ (n := 6) (S := fun w' => Same w2 w' ∧ w'.cell? ⟨sc, 1, none⟩ = some (.nilIface) ∧ w'.cell? ⟨0, 0, none⟩ = some (.iface 126 (.pointer (some aE))) ∧ (binOp .eql 58 (.nilIface) (.iface 126 (.pointer (some aE)))).run Tryd.prog w' = .ok (.bool false) w') (ds := []) #[false, false, false, false, false, false] (by kernel_rfl) rfl rfl ⟨(Same.drew _), (Same.cell (Same.drew _) HC1.out), (Same.cell (Same.drew _) HCE.out), (HEQ.out _ (Same.drew _))⟩ (fun hHeld => ?_)
  refine with_tabW scan3.tab3 scan3.bits3 (fun HT_ HW_ => ?_)
  generalize World.drew _ = we at hHeld ⊢
  refine pure_ (i := 0) (N := some 12) (v := ?_) (a' := ?_) #[true, false, false, false, false, false] rfl rfl (any_of HT_.out (by kernel_rfl)) (fun _ _ _ h => h) (Or.inl ⟨by rfl, ?_⟩) ?_ ?_
  rotate_left
  · intro w'
    go_simp
    with_reducible rfl
  rotate_left
  · simp only [Act.put, List.setIfInBounds_toArray, List.set_cons_zero, List.set_cons_succ, i64_w, i32_w]
    rfl
  refine pure_ (i := 1) (N := some 13) (v := ?_) (a' := ?_) #[true, true, false, false, false, false] rfl rfl (any_of HT_.out (by kernel_rfl)) (fun _ _ _ h => h) (Or.inl ⟨by rfl, ?_⟩) ?_ ?_
  rotate_left
  · intro w'
    go_simp
    with_reducible rfl
  rotate_left
  · simp only [Act.put, List.setIfInBounds_toArray, List.set_cons_zero, List.set_cons_succ, i64_w, i32_w]
    rfl
  refine pure_ (i := 2) (N := some 14) (v := ?_) (a' := ?_) #[true, true, true, false, false, false] rfl rfl (any_of HT_.out (by kernel_rfl)) (fun _ _ _ h => h) (Or.inl ⟨by rfl, ?_⟩) ?_ ?_
  rotate_left
  · intro w'
    go_simp
    with_reducible rfl
  rotate_left
  · simp only [Act.put, List.setIfInBounds_toArray, List.set_cons_zero, List.set_cons_succ, i64_w, i32_w]
    rfl
  refine take_ (i := 3) (N := some 15) (v := ?_) (a' := ?_) #[true, true, true, true, false, false] rfl rfl (take_ofW HT_.out HW_.out (by kernel_rfl)) (fun _ _ _ h => h) (Or.inl ⟨by rfl, ?_⟩) hHeld ?_ ?_
  rotate_left
  · rintro w' ⟨s0, s1, s2, s3⟩
    go_simp
    with_reducible rfl
  rotate_left
  · simp only [Act.put, List.setIfInBounds_toArray, List.set_cons_zero, List.set_cons_succ, i64_w, i32_w]
    rfl
  refine take_ (i := 4) (N := some 16) (v := ?_) (a' := ?_) #[true, true, true, true, true, false] rfl rfl (take_ofW HT_.out HW_.out (by kernel_rfl)) (fun _ _ _ h => h) (Or.inl ⟨by rfl, ?_⟩) hHeld ?_ ?_
  rotate_left
  · rintro w' ⟨s0, s1, s2, s3⟩
    go_simp
    with_reducible rfl
  rotate_left
  · simp only [Act.put, List.setIfInBounds_toArray, List.set_cons_zero, List.set_cons_succ, i64_w, i32_w]
    rfl
  refine take_ (i := 5) (N := some 17) (v := ?_) (a' := ?_) #[true, true, true, true, true, true] rfl rfl (take_ofW HT_.out HW_.out (by kernel_rfl)) (fun _ _ _ h => h) (Or.inl ⟨by rfl, ?_⟩) hHeld ?_ ?_
  rotate_left
  · rintro w' ⟨s0, s1, s2, s3⟩
    go_simp
    with_reducible rfl
  rotate_left
  · simp only [Act.put, List.setIfInBounds_toArray, List.set_cons_zero, List.set_cons_succ, i64_w, i32_w]
    rfl
  refine done_ (done_of HT_.out (by kernel_rfl)) ?_
  have HF3 : Aside0 (Same w2 we) := ⟨hHeld.1⟩
  clear hHeld
  have HS3 := Aside0.mk (HS2.out.same HF3.out)
  have HF4 : Aside0 (Far w we (fun i => i = sc ∨ i = rb)) := ⟨HF2.out.trans (Far.of_same HF3.out _)⟩
  clear HF3 HF2 HS2 HC1 HCE HEQ HS1 HF1 HR
  have hsw3 := HS0.out.below HS3.out.b
  have HP3 := Aside0.mk (HP.out.far HF4.out)
  clear hsw3
  by_cases q1 : cb < m
  · have q2 : 0 < m := by omega
    have hcp0 : decide ((cb : Int) < (m : Int)) = true := decide_eq_true (by omega)
    have hcp1 : decide (cb < m) = true := decide_eq_true (by omega)
    have hc1_ := (St_cells HS3.out).2.1
    have hc2_ := (St_cells HS3.out).2.2.1
    obtain ⟨M, hMs, hmk⟩ := make5 m hm6
    have hsc : sc < we.heap.size := blk_lt HS3.out.s
    have hc2a : ∀ o, (we.alloc o).cell? ⟨sc, 2, none⟩ = some (.slice X n cb) := fun o => (World.cell?_of_block (a := ⟨sc, 2, none⟩) (Below.heap_alloc we o sc hsc)).trans hc2_
    have hz2a : ∀ o, (we.alloc o).frozen? ⟨sc, 2, none⟩ = false := fun o => (World.frozen?_of_block (a := ⟨sc, 2, none⟩) (Below.heap_alloc we o sc hsc)).trans (St_cells HS3.out).2.2.2.2
    go_upto_region 10 with fail
    clear hc1_ hc2_ hcp0 hcp1 hmk hc2a hz2a
    have HSa : Aside0 (St w0 ((we.setCell ⟨sc, 2, none⟩ (.slice (some ⟨we.heap.size, 0, none⟩) 0 m)).alloc (.cells M 5)) sc rb A D c (pos + 4) .nilIface (.slice (some ⟨we.heap.size, 0, none⟩) 0 m) ds1) := ⟨St_below (St_pay HS3.out _) (below_alloc (Below.refl _ _) _)⟩
    have HBa : Aside0 (((we.setCell ⟨sc, 2, none⟩ (.slice (some ⟨we.heap.size, 0, none⟩) 0 m)).alloc (.cells M 5)).heap[we.heap.size]? = some (.cells M 5 (0, 0))) := ⟨by have q := blk_new (we.setCell ⟨sc, 2, none⟩ (.slice (some ⟨we.heap.size, 0, none⟩) 0 m)) (.cells M 5); rw [World.size_setCell] at q; exact q⟩
    have HFa : Aside0 (Far w ((we.setCell ⟨sc, 2, none⟩ (.slice (some ⟨we.heap.size, 0, none⟩) 0 m)).alloc (.cells M 5)) (fun i => i = sc ∨ i = rb)) := ⟨(HF4.out.set (Or.inl rfl) _).trans (Far.of_below (below_alloc (Below.refl _ _) _) _)⟩
    have HGN : Aside0 (w0.heap.size ≤ we.heap.size ∧ w.heap.size ≤ we.heap.size ∧ we.heap.size ≠ sc ∧ we.heap.size ≠ rb) := ⟨HS3.out.b.size, HF4.out.size, by omega, by
      obtain ⟨pr, hr⟩ := HS3.out.r
      have := blk_lt hr
      omega⟩
    obtain ⟨gn, hgn⟩ : ∃ gn, gn = we.heap.size := ⟨_, rfl⟩
    rw [← hgn] at HSa HBa HFa HGN
    simp only [← hgn]
    generalize (we.setCell ⟨sc, 2, none⟩ (.slice (some ⟨gn, 0, none⟩) 0 m)).alloc (.cells M 5) = wf at HSa HBa HFa ⊢
    clear hgn hsc
    have HC0 := Aside0.mk (St_cells HSa.out).1
    have HC2 := Aside0.mk (St_cells HSa.out).2.2.1
    have HGS : Aside0 (gn ≠ sc ∧ gn ≠ rb ∧ w0.heap.size ≤ gn) := ⟨HGN.out.2.2.1, HGN.out.2.2.2, HGN.out.1⟩
    have HRD : Aside0 (∀ W, Same wf W → Calls Tryd.prog 42 #[.iface 69 (.pointer (some ⟨rb, 0, none⟩)), .slice (some ⟨gn, 0, none⟩) m m] W fun e w' => e = .returned (.tuple #[.int .i64 (m : Int), .nilIface]) ∧ Rd W w' rb gn 0 A D c (pos + 4) m (M).toList 5) := ⟨fun W hW => by
      obtain ⟨pr, hr⟩ := HSa.out.r
      have hsb := HSa.out.b
      exact fullAll rb gn 0 m m A c D (pos + 4) pr (M).toList 5 aE W (hW.blk hr) (hW.blk (HBa.out)) (HGS.out.2.1.symm) (by rw [Array.length_toList]; omega) (by omega) (HD.out.r W (hsb.trans (hW.below _))) HD.out.c (hW.cell (HS0.out.below hsb).e) (by omega) m (by omega) (by omega)⟩
    have hcutP := toA (some ⟨gn, 0, none⟩) 0 m m (by omega)
    refine start_ (n := 18) (S := fun w' => Same wf w' ∧ w'.cell? ⟨sc, 0, none⟩ = some (.iface 69 (.pointer (some ⟨rb, 0, none⟩))) ∧ w'.cell? ⟨sc, 2, none⟩ = some (.slice (some ⟨gn, 0, none⟩) 0 m)) (ds := [11, 17]) #[false, false, false, false, false, false, false, false, false, false, false, false, false, false, false, false, false, false] (by kernel_rfl) rfl rfl ⟨(Same.drew _), (Same.cell (Same.drew _) HC0.out), (Same.cell (Same.drew _) HC2.out)⟩ (fun hHeld => ?_)
    refine with_tabW scan10.tab10 scan10.bits10 (fun HT_ HW_ => ?_)
    generalize World.drew _ = wi at hHeld ⊢
    refine pure_ (i := 0) (N := some 39) (v := ?_) (a' := ?_) #[true, false, false, false, false, false, false, false, false, false, false, false, false, false, false, false, false, false] rfl rfl (any_of HT_.out (by kernel_rfl)) (fun _ _ _ h => h) (Or.inl ⟨by rfl, ?_⟩) ?_ ?_
    rotate_left
    · intro w'
      go_simp
      with_reducible rfl
    rotate_left
    · simp only [Act.put, List.setIfInBounds_toArray, List.set_cons_zero, List.set_cons_succ, i64_w, i32_w]
      rfl
    refine pure_ (i := 1) (N := some 40) (v := ?_) (a' := ?_) #[true, true, false, false, false, false, false, false, false, false, false, false, false, false, false, false, false, false] rfl rfl (any_of HT_.out (by kernel_rfl)) (fun _ _ _ h => h) (Or.inl ⟨by rfl, ?_⟩) ?_ ?_
    rotate_left
    · intro w'
      go_simp
      with_reducible rfl
    rotate_left
    · simp only [Act.put, List.setIfInBounds_toArray, List.set_cons_zero, List.set_cons_succ, i64_w, i32_w]
      rfl
    refine pure_ (i := 2) (N := some 41) (v := ?_) (a' := ?_) #[true, true, true, false, false, false, false, false, false, false, false, false, false, false, false, false, false, false] rfl rfl (any_of HT_.out (by kernel_rfl)) (fun _ _ _ h => h) (Or.inl ⟨by rfl, ?_⟩) ?_ ?_
    rotate_left
    · intro w'
      go_simp
      with_reducible rfl
    rotate_left
    · simp only [Act.put, List.setIfInBounds_toArray, List.set_cons_zero, List.set_cons_succ, i64_w, i32_w]
      rfl
    refine pure_ (i := 3) (N := some 42) (v := ?_) (a' := ?_) #[true, true, true, true, false, false, false, false, false, false, false, false, false, false, false, false, false, false] rfl rfl (any_of HT_.out (by kernel_rfl)) (fun _ _ _ h => h) (Or.inl ⟨by rfl, ?_⟩) ?_ ?_
    rotate_left
    · intro w'
      go_simp
      with_reducible rfl
    rotate_left
    · simp only [Act.put, List.setIfInBounds_toArray, List.set_cons_zero, List.set_cons_succ, i64_w, i32_w]
      rfl
    refine pure_ (i := 5) (N := some 44) (v := ?_) (a' := ?_) #[true, true, true, true, false, true, false, false, false, false, false, false, false, false, false, false, false, false] rfl rfl (any_of HT_.out (by kernel_rfl)) (fun _ _ _ h => h) (Or.inl ⟨by rfl, ?_⟩) ?_ ?_
    rotate_left
    · intro w'
      go_simp
      with_reducible rfl
    rotate_left
    · simp only [Act.put, List.setIfInBounds_toArray, List.set_cons_zero, List.set_cons_succ, i64_w, i32_w]
      rfl
    refine pure_ (i := 6) (N := some 45) (v := ?_) (a' := ?_) #[true, true, true, true, false, true, true, false, false, false, false, false, false, false, false, false, false, false] rfl rfl (any_of HT_.out (by kernel_rfl)) (fun _ _ _ h => h) (Or.inl ⟨by rfl, ?_⟩) ?_ ?_
    rotate_left
    · intro w'
      go_simp
      with_reducible rfl
    rotate_left
    · simp only [Act.put, List.setIfInBounds_toArray, List.set_cons_zero, List.set_cons_succ, i64_w, i32_w]
      rfl
    refine pure_ (i := 7) (N := some 46) (v := ?_) (a' := ?_) #[true, true, true, true, false, true, true, true, false, false, false, false, false, false, false, false, false, false] rfl rfl (any_of HT_.out (by kernel_rfl)) (fun _ _ _ h => h) (Or.inl ⟨by rfl, ?_⟩) ?_ ?_
    rotate_left
    · intro w'
      go_simp
      with_reducible rfl
    rotate_left
    · simp only [Act.put, List.setIfInBounds_toArray, List.set_cons_zero, List.set_cons_succ, i64_w, i32_w]
      rfl
    refine pure_ (i := 9) (N := some 48) (v := ?_) (a' := ?_) #[true, true, true, true, false, true, true, true, false, true, false, false, false, false, false, false, false, false] rfl rfl (any_of HT_.out (by kernel_rfl)) (fun _ _ _ h => h) (Or.inl ⟨by rfl, ?_⟩) ?_ ?_
    rotate_left
    · intro w'
      go_simp
      with_reducible rfl
    rotate_left
    · simp only [Act.put, List.setIfInBounds_toArray, List.set_cons_zero, List.set_cons_succ, i64_w, i32_w]
      rfl
    refine take_ (i := 4) (N := some 43) (v := ?_) (a' := ?_) #[true, true, true, true, true, true, true, true, false, true, false, false, false, false, false, false, false, false] rfl rfl (take_ofW HT_.out HW_.out (by kernel_rfl)) (fun _ _ _ h => h) (Or.inl ⟨by rfl, ?_⟩) hHeld ?_ ?_
    rotate_left
    · rintro w' ⟨s0, s1, s2⟩
      go_simp
      with_reducible rfl
    rotate_left
    · simp only [Act.put, List.setIfInBounds_toArray, List.set_cons_zero, List.set_cons_succ, i64_w, i32_w]
      rfl
    refine take_ (i := 8) (N := some 47) (v := ?_) (a' := ?_) #[true, true, true, true, true, true, true, true, true, true, false, false, false, false, false, false, false, false] rfl rfl (take_ofW HT_.out HW_.out (by kernel_rfl)) (fun _ _ _ h => h) (Or.inl ⟨by rfl, ?_⟩) hHeld ?_ ?_
    rotate_left
    · rintro w' ⟨s0, s1, s2⟩
      go_simp
      with_reducible rfl
    rotate_left
    · simp only [Act.put, List.setIfInBounds_toArray, List.set_cons_zero, List.set_cons_succ, i64_w, i32_w]
      rfl
    refine pure_ (i := 10) (N := some 49) (v := ?_) (a' := ?_) #[true, true, true, true, true, true, true, true, true, true, true, false, false, false, false, false, false, false] rfl rfl (any_of HT_.out (by kernel_rfl)) (fun _ _ _ h => h) (Or.inl ⟨by rfl, ?_⟩) ?_ ?_
    rotate_left
    · intro w'
      go_simp
      with_reducible rfl
    rotate_left
    · simp only [Act.put, List.setIfInBounds_toArray, List.set_cons_zero, List.set_cons_succ, i64_w, i32_w]
      rfl
    refine last_ (i := 11) (N := some 50) #[true, true, true, true, true, true, true, true, true, true, true, true, false, false, false, false, false, false] rfl rfl (one_of HT_.out (by kernel_rfl)) (by decide) (fun K hK => ?_)
    refine goes_ Tryd.func42 (by kernel_rfl) rfl #[.iface 69 (.pointer (some ⟨rb, 0, none⟩)), .slice (some ⟨gn, 0, none⟩) m m] (by rfl) rfl rfl (by simp only [List.map_toArray, List.map_cons, List.map_nil]; rfl) ?_
    with_reducible refine (HRD.out _ hHeld.1).mono ?_
    rintro e w5 ⟨rfl, hq⟩
    refine ⟨_, rfl, ?_⟩
    have HS5 : Aside0 (St w0 w5 sc rb A D c (pos + 4 + m) .nilIface (.slice (some ⟨gn, 0, none⟩) 0 m) ds1) := ⟨St_body (HSa.out.same hHeld.1) hq HGS.out.1 HGS.out.2.2⟩
    have HF5 : Aside0 (Far w w5 (fun i => i = sc ∨ i = rb ∨ ∃ ad, X = some ad ∧ i = ad.block)) := ⟨((HFa.out.mono (fun i q => by rcases q with q | q; exact Or.inl q; exact Or.inr (Or.inl q))).trans (Far.of_same hHeld.1 _)).trans2 hq.f (fun i q => by rcases q with q | q; exact Or.inr (by rw [q]; exact HGN.out.2.1); exact Or.inl (Or.inr (Or.inl q)))⟩
    have HG5 : Aside0 (∃ C : Array Value, w5.heap[gn]? = some (.cells C 5 (0, 0)) ∧ C.size = m ∧ ∀ j x, ((D.drop (pos + 4)).take m)[j]? = some x → C.toList[0 + j]? = some (.int .u8 x)) := ⟨_, hq.g, by rw [List.size_toArray, splice_len _ _ _ (by rw [seg_len _ _ _ (by omega), Array.length_toList]; omega), Array.length_toList]; omega, fun j x hx => by rw [List.toList_toArray]; exact splice_seg _ _ _ _ _ _ hx⟩
    clear hq
    have hc1_ := (St_cells HS5.out).2.1
    have hz1_ := (St_cells HS5.out).2.2.2.1
    refine hK.out _ _ ?_
    clear hK K
    refine norm_ (a' := ?_) ?_ ?_
    rotate_left
    · show Act.put _ (some 50) _ = _
      simp only [Act.put, List.setIfInBounds_toArray, List.set_cons_zero, List.set_cons_succ, i64_w, i32_w]
      rfl
    refine pure_ (i := 12) (N := some 38) (v := ?_) (a' := ?_) #[true, true, true, true, true, true, true, true, true, true, true, true, true, false, false, false, false, false] rfl rfl (any_of HT_.out (by kernel_rfl)) (fun _ _ _ h => h) (Or.inl ⟨by rfl, ?_⟩) ?_ ?_
    rotate_left
    · intro w'
      go_simp
      with_reducible rfl
    rotate_left
    · simp only [Act.put, List.setIfInBounds_toArray, List.set_cons_zero, List.set_cons_succ, i64_w, i32_w]
      rfl
    refine pure_ (i := 13) (N := some 51) (v := ?_) (a' := ?_) #[true, true, true, true, true, true, true, true, true, true, true, true, true, true, false, false, false, false] rfl rfl (any_of HT_.out (by kernel_rfl)) (fun _ _ _ h => h) (Or.inl ⟨by rfl, ?_⟩) ?_ ?_
    rotate_left
    · intro w'
      go_simp
      with_reducible rfl
    rotate_left
    · simp only [Act.put, List.setIfInBounds_toArray, List.set_cons_zero, List.set_cons_succ, i64_w, i32_w]
      rfl
    refine pure_ (i := 14) (N := some 52) (v := ?_) (a' := ?_) #[true, true, true, true, true, true, true, true, true, true, true, true, true, true, true, false, false, false] rfl rfl (any_of HT_.out (by kernel_rfl)) (fun _ _ _ h => h) (Or.inl ⟨by rfl, ?_⟩) ?_ ?_
    rotate_left
    · intro w'
      go_simp
      with_reducible rfl
    rotate_left
    · simp only [Act.put, List.setIfInBounds_toArray, List.set_cons_zero, List.set_cons_succ, i64_w, i32_w]
      rfl
    refine pure_ (i := 15) (N := some 53) (v := ?_) (a' := ?_) #[true, true, true, true, true, true, true, true, true, true, true, true, true, true, true, true, false, false] rfl rfl (any_of HT_.out (by kernel_rfl)) (fun _ _ _ h => h) (Or.inl ⟨by rfl, ?_⟩) ?_ ?_
    rotate_left
    · intro w'
      go_simp
      with_reducible rfl
    rotate_left
    · simp only [Act.put, List.setIfInBounds_toArray, List.set_cons_zero, List.set_cons_succ, i64_w, i32_w]
      rfl
    refine pure_ (i := 16) (N := some 54) (v := ?_) (a' := ?_) #[true, true, true, true, true, true, true, true, true, true, true, true, true, true, true, true, true, false] rfl rfl (any_of HT_.out (by kernel_rfl)) (fun _ _ _ h => h) (Or.inl ⟨by rfl, ?_⟩) ?_ ?_
    rotate_left
    · intro w'
      go_simp
      with_reducible rfl
    rotate_left
    · simp only [Act.put, List.setIfInBounds_toArray, List.set_cons_zero, List.set_cons_succ, i64_w, i32_w]
      rfl
    refine last_ (i := 17) (N := none) #[true, true, true, true, true, true, true, true, true, true, true, true, true, true, true, true, true, true] rfl rfl (one_of HT_.out (by kernel_rfl)) (by decide) (fun K hK => ?_)
    refine skip_ (w1 := ?_) (by rfl) rfl ?_ ?_
    rotate_left
    · go_simp
      rfl
    refine hK.out _ _ ?_
    clear hK K
    refine done_ (done_of HT_.out (by kernel_rfl)) ?_
    clear hHeld hc1_ hz1_
    have HS6 := Aside0.mk (St_err HS5.out .nilIface)
    have HF6 : Aside0 (Far w (w5.setCell ⟨sc, 1, none⟩ .nilIface) (fun i => i = sc ∨ i = rb ∨ ∃ ad, X = some ad ∧ i = ad.block)) := ⟨HF5.out.set (Or.inl rfl) _⟩
    have HC6 : Aside0 (Kd.C (Kd.int .u8) (w5.setCell ⟨sc, 1, none⟩ .nilIface) (some ⟨gn, 0, none⟩) m ((D.drop (pos + 4)).take m)) := ⟨row_C HG5.out HGS.out.1 hm6 (by rw [List.length_take, List.length_drop]; omega)⟩
    have HP6 : Aside0 (Pay w0.heap.size (w5.setCell ⟨sc, 1, none⟩ .nilIface) sc rb (some ⟨gn, 0, none⟩) m m) := ⟨row_P HG5.out HGS.out.1 HGS.out.2.1 HGS.out.2.2 (by omega)⟩
    generalize w5.setCell ⟨sc, 1, none⟩ .nilIface = w6 at HS6 HF6 HC6 HP6 ⊢
    have hc1_ := (St_cells HS6.out).2.1
    have hc2_ := (St_cells HS6.out).2.2.1
    have hz2_ := (St_cells HS6.out).2.2.2.2
    go_upto_region 14 with fail
    clear hc1_ hc2_ hz2_ hcutP
    have HS7 := Aside0.mk (St_pay HS6.out (.slice (some ⟨gn, 0, none⟩) m m))
    have HF7 : Aside0 (Far w (w6.setCell ⟨sc, 2, none⟩ (.slice (some ⟨gn, 0, none⟩) m m)) (fun i => i = sc ∨ i = rb ∨ ∃ ad, X = some ad ∧ i = ad.block)) := ⟨HF6.out.set (Or.inl rfl) _⟩
    have HC7 : Aside0 (Kd.C (Kd.int .u8) (w6.setCell ⟨sc, 2, none⟩ (.slice (some ⟨gn, 0, none⟩) m m)) (some ⟨gn, 0, none⟩) m ((D.drop (pos + 4)).take m)) := ⟨C_far HC6.out HP6.out (by simp)⟩
    have HP7 : Aside0 (Pay w0.heap.size (w6.setCell ⟨sc, 2, none⟩ (.slice (some ⟨gn, 0, none⟩) m m)) sc rb (some ⟨gn, 0, none⟩) m m) := ⟨HP6.out.far ((Far.refl _ _).set (Or.inl rfl) _)⟩
    generalize w6.setCell ⟨sc, 2, none⟩ (.slice (some ⟨gn, 0, none⟩) m m) = w7 at HS7 HF7 HC7 HP7 ⊢
    have HC2 := Aside0.mk (St_cells HS7.out).2.2.1
    have hl5 : ((D.drop (pos + 4)).take m).length = m := by rw [List.length_take, List.length_drop]; omega
    have HN : Aside0 (∀ AP W, Below w7.heap.size w7 W → Kd.C (Kd.int .u8) W AP 4 [69, 82, 82, 32] → Calls Tryd.prog 43 #[.slice (some ⟨gn, 0, none⟩) m m, .slice AP 4 4] W fun e w' => e = .returned (.bool false) ∧ Drawn0 W w') := ⟨fun AP W hb hp => by
      have := noPre (some ⟨gn, 0, none⟩) AP m ((D.drop (pos + 4)).take m) W (by rw [hl5]; exact Kd.C_below HC7.out hb) (by rw [hl5]; have := HP7.out.n; omega) hp HNO.out
      rw [hl5] at this
      exact this⟩
    refine start_ (n := 6) (S := fun w' => Below w7.heap.size w7 w' ∧ w'.cell? ⟨sc, 2, none⟩ = some (.slice (some ⟨gn, 0, none⟩) m m)) (ds := [5]) #[false, false, false, false, false, false] (by kernel_rfl) rfl rfl ⟨((Same.drew _).below _), (Same.cell (Same.drew _) HC2.out)⟩ (fun hHeld => ?_)
    refine with_tabW scan14.tab14 scan14.bits14 (fun HT_ HW_ => ?_)
    generalize World.drew _ = wk at hHeld ⊢
    refine pure_ (i := 0) (N := some 69) (v := ?_) (a' := ?_) #[true, false, false, false, false, false] rfl rfl (any_of HT_.out (by kernel_rfl)) (fun _ _ _ h => h) (Or.inl ⟨by rfl, ?_⟩) ?_ ?_
    rotate_left
    · intro w'
      go_simp
      with_reducible rfl
    rotate_left
    · simp only [Act.put, List.setIfInBounds_toArray, List.set_cons_zero, List.set_cons_succ, i64_w, i32_w]
      rfl
    refine pure_ (i := 1) (N := some 70) (v := ?_) (a' := ?_) #[true, true, false, false, false, false] rfl rfl (any_of HT_.out (by kernel_rfl)) (fun _ _ _ h => h) (Or.inl ⟨by rfl, ?_⟩) ?_ ?_
    rotate_left
    · intro w'
      go_simp
      with_reducible rfl
    rotate_left
    · simp only [Act.put, List.setIfInBounds_toArray, List.set_cons_zero, List.set_cons_succ, i64_w, i32_w]
      rfl
    refine pure_ (i := 2) (N := some 71) (v := ?_) (a' := ?_) #[true, true, true, false, false, false] rfl rfl (any_of HT_.out (by kernel_rfl)) (fun _ _ _ h => h) (Or.inl ⟨by rfl, ?_⟩) ?_ ?_
    rotate_left
    · intro w'
      go_simp
      with_reducible rfl
    rotate_left
    · simp only [Act.put, List.setIfInBounds_toArray, List.set_cons_zero, List.set_cons_succ, i64_w, i32_w]
      rfl
    refine take_ (i := 3) (N := some 72) (v := ?_) (a' := ?_) #[true, true, true, true, false, false] rfl rfl (take_ofW HT_.out HW_.out (by kernel_rfl)) (fun _ _ _ h => h) (Or.inl ⟨by rfl, ?_⟩) hHeld ?_ ?_
    rotate_left
    · rintro w' ⟨s0, s1⟩
      go_simp
      with_reducible rfl
    rotate_left
    · simp only [Act.put, List.setIfInBounds_toArray, List.set_cons_zero, List.set_cons_succ, i64_w, i32_w]
      rfl
    refine one_ (i := 4) (N := some 73) #[true, true, true, true, true, false] rfl rfl (one_of HT_.out (by kernel_rfl)) (by decide) (fun K hK => ?_)
    refine goes_ Tryd.func44 (by kernel_rfl) rfl #[] (by rfl) rfl rfl (by simp only [List.map_toArray, List.map_nil]) ?_
    with_reducible refine (errPre _).mono ?_
    rintro e w8 ⟨AP, rfl, hCP, hBP⟩
    refine ⟨_, rfl, ?_⟩
    have HB8 : Aside0 (Below w7.heap.size w7 w8) := ⟨hHeld.1.trans (hBP.mono hHeld.1.size)⟩
    clear hBP hHeld
    refine hK.out _ _ ⟨HB8.out, (pw_cell_below HB8.out HC2.out)⟩ (fun hHeld => ?_)
    clear hK K
    refine norm_ (a' := ?_) ?_ ?_
    rotate_left
    · show Act.put _ (some 73) _ = _
      simp only [Act.put, List.setIfInBounds_toArray, List.set_cons_zero, List.set_cons_succ, i64_w, i32_w]
      rfl
    refine last_ (i := 5) (N := some 74) #[true, true, true, true, true, true] rfl rfl (one_of HT_.out (by kernel_rfl)) (by decide) (fun K hK => ?_)
    refine goes_ Tryd.func43 (by kernel_rfl) rfl #[.slice (some ⟨gn, 0, none⟩) m m, .slice AP 4 4] (by rfl) rfl rfl (by simp only [List.map_toArray, List.map_cons, List.map_nil]; rfl) ?_
    with_reducible refine (HN.out AP w8 HB8.out hCP).mono ?_
    rintro e w9 ⟨rfl, hd9⟩
    refine ⟨_, rfl, ?_⟩
    have HB9 : Aside0 (Below w7.heap.size w7 w9) := ⟨HB8.out.trans ((Drawn0.below hd9).mono HB8.out.size)⟩
    clear hd9
    refine hK.out _ _ ?_
    clear hK K
    refine norm_ (a' := ?_) ?_ ?_
    rotate_left
    · show Act.put _ (some 74) _ = _
      simp only [Act.put, List.setIfInBounds_toArray, List.set_cons_zero, List.set_cons_succ, i64_w, i32_w]
      rfl
    refine done_ (done_of HT_.out (by kernel_rfl)) ?_
    go_wp2
    go_ret
    exact ⟨rfl, (some ⟨gn, 0, none⟩), m, ds1, St_below HS7.out HB9.out, HP7.out.below HB9.out, Kd.C_below HC7.out HB9.out, HF7.out.trans (Far.of_below HB9.out _), fun ad q => Or.inr (by cases q; exact HGN.out.2.1)⟩
  rcases Nat.eq_zero_or_pos m with q2 | q2
  · show _
    have HQ2 := Aside0.mk q2
    clear q2
    have hcp0 : decide ((cb : Int) < (m : Int)) = false := decide_eq_false (by omega)
    have hcp1 : decide (cb < m) = false := decide_eq_false (by omega)
    have hc1_ := (St_cells HS3.out).2.1
    have hc2_ := (St_cells HS3.out).2.2.1
    go_upto_region 10 with fail
    clear hc1_ hc2_ hcp0 hcp1
    have HSa := HS3
    have HZ : Aside0 (∀ W, Calls Tryd.prog 42 #[.iface 69 (.pointer (some ⟨rb, 0, none⟩)), .slice X m cb] W fun e w' => e = .returned (.tuple #[.int .i64 (m : Int), .nilIface]) ∧ Same W w') := ⟨fun W => by rw [HQ2.out]; exact fullZero rb cb X W⟩
    have HC0 := Aside0.mk (St_cells HSa.out).1
    have HC2 := Aside0.mk (St_cells HSa.out).2.2.1
    have hcutP := toA X n cb m (by omega)
    refine start_ (n := 18) (S := fun w' => Same we w' ∧ w'.cell? ⟨sc, 0, none⟩ = some (.iface 69 (.pointer (some ⟨rb, 0, none⟩))) ∧ w'.cell? ⟨sc, 2, none⟩ = some (.slice X n cb)) (ds := [11, 17]) #[false, false, false, false, false, false, false, false, false, false, false, false, false, false, false, false, false, false] (by kernel_rfl) rfl rfl ⟨(Same.drew _), (Same.cell (Same.drew _) HC0.out), (Same.cell (Same.drew _) HC2.out)⟩ (fun hHeld => ?_)
    refine with_tabW scan10.tab10 scan10.bits10 (fun HT_ HW_ => ?_)
    generalize World.drew _ = wi at hHeld ⊢
    refine pure_ (i := 0) (N := some 39) (v := ?_) (a' := ?_) #[true, false, false, false, false, false, false, false, false, false, false, false, false, false, false, false, false, false] rfl rfl (any_of HT_.out (by kernel_rfl)) (fun _ _ _ h => h) (Or.inl ⟨by rfl, ?_⟩) ?_ ?_
    rotate_left
    · intro w'
      go_simp
      with_reducible rfl
    rotate_left
    · simp only [Act.put, List.setIfInBounds_toArray, List.set_cons_zero, List.set_cons_succ, i64_w, i32_w]
      rfl
    refine pure_ (i := 1) (N := some 40) (v := ?_) (a' := ?_) #[true, true, false, false, false, false, false, false, false, false, false, false, false, false, false, false, false, false] rfl rfl (any_of HT_.out (by kernel_rfl)) (fun _ _ _ h => h) (Or.inl ⟨by rfl, ?_⟩) ?_ ?_
    rotate_left
    · intro w'
      go_simp
      with_reducible rfl
    rotate_left
    · simp only [Act.put, List.setIfInBounds_toArray, List.set_cons_zero, List.set_cons_succ, i64_w, i32_w]
      rfl
    refine pure_ (i := 2) (N := some 41) (v := ?_) (a' := ?_) #[true, true, true, false, false, false, false, false, false, false, false, false, false, false, false, false, false, false] rfl rfl (any_of HT_.out (by kernel_rfl)) (fun _ _ _ h => h) (Or.inl ⟨by rfl, ?_⟩) ?_ ?_
    rotate_left
    · intro w'
      go_simp
      with_reducible rfl
    rotate_left
    · simp only [Act.put, List.setIfInBounds_toArray, List.set_cons_zero, List.set_cons_succ, i64_w, i32_w]
      rfl
    refine pure_ (i := 3) (N := some 42) (v := ?_) (a' := ?_) #[true, true, true, true, false, false, false, false, false, false, false, false, false, false, false, false, false, false] rfl rfl (any_of HT_.out (by kernel_rfl)) (fun _ _ _ h => h) (Or.inl ⟨by rfl, ?_⟩) ?_ ?_
    rotate_left
    · intro w'
      go_simp
      with_reducible rfl
    rotate_left
    · simp only [Act.put, List.setIfInBounds_toArray, List.set_cons_zero, List.set_cons_succ, i64_w, i32_w]
      rfl
    refine pure_ (i := 5) (N := some 44) (v := ?_) (a' := ?_) #[true, true, true, true, false, true, false, false, false, false, false, false, false, false, false, false, false, false] rfl rfl (any_of HT_.out (by kernel_rfl)) (fun _ _ _ h => h) (Or.inl ⟨by rfl, ?_⟩) ?_ ?_
    rotate_left
    · intro w'
      go_simp
      with_reducible rfl
    rotate_left
    · simp only [Act.put, List.setIfInBounds_toArray, List.set_cons_zero, List.set_cons_succ, i64_w, i32_w]
      rfl
    refine pure_ (i := 6) (N := some 45) (v := ?_) (a' := ?_) #[true, true, true, true, false, true, true, false, false, false, false, false, false, false, false, false, false, false] rfl rfl (any_of HT_.out (by kernel_rfl)) (fun _ _ _ h => h) (Or.inl ⟨by rfl, ?_⟩) ?_ ?_
    rotate_left
    · intro w'
      go_simp
      with_reducible rfl
    rotate_left
    · simp only [Act.put, List.setIfInBounds_toArray, List.set_cons_zero, List.set_cons_succ, i64_w, i32_w]
      rfl
    refine pure_ (i := 7) (N := some 46) (v := ?_) (a' := ?_) #[true, true, true, true, false, true, true, true, false, false, false, false, false, false, false, false, false, false] rfl rfl (any_of HT_.out (by kernel_rfl)) (fun _ _ _ h => h) (Or.inl ⟨by rfl, ?_⟩) ?_ ?_
    rotate_left
    · intro w'
      go_simp
      with_reducible rfl
    rotate_left
    · simp only [Act.put, List.setIfInBounds_toArray, List.set_cons_zero, List.set_cons_succ, i64_w, i32_w]
      rfl
    refine pure_ (i := 9) (N := some 48) (v := ?_) (a' := ?_) #[true, true, true, true, false, true, true, true, false, true, false, false, false, false, false, false, false, false] rfl rfl (any_of HT_.out (by kernel_rfl)) (fun _ _ _ h => h) (Or.inl ⟨by rfl, ?_⟩) ?_ ?_
    rotate_left
    · intro w'
      go_simp
      with_reducible rfl
    rotate_left
    · simp only [Act.put, List.setIfInBounds_toArray, List.set_cons_zero, List.set_cons_succ, i64_w, i32_w]
      rfl
    refine take_ (i := 4) (N := some 43) (v := ?_) (a' := ?_) #[true, true, true, true, true, true, true, true, false, true, false, false, false, false, false, false, false, false] rfl rfl (take_ofW HT_.out HW_.out (by kernel_rfl)) (fun _ _ _ h => h) (Or.inl ⟨by rfl, ?_⟩) hHeld ?_ ?_
    rotate_left
    · rintro w' ⟨s0, s1, s2⟩
      go_simp
      with_reducible rfl
    rotate_left
    · simp only [Act.put, List.setIfInBounds_toArray, List.set_cons_zero, List.set_cons_succ, i64_w, i32_w]
      rfl
    refine take_ (i := 8) (N := some 47) (v := ?_) (a' := ?_) #[true, true, true, true, true, true, true, true, true, true, false, false, false, false, false, false, false, false] rfl rfl (take_ofW HT_.out HW_.out (by kernel_rfl)) (fun _ _ _ h => h) (Or.inl ⟨by rfl, ?_⟩) hHeld ?_ ?_
    rotate_left
    · rintro w' ⟨s0, s1, s2⟩
      go_simp
      with_reducible rfl
    rotate_left
    · simp only [Act.put, List.setIfInBounds_toArray, List.set_cons_zero, List.set_cons_succ, i64_w, i32_w]
      rfl
    refine pure_ (i := 10) (N := some 49) (v := ?_) (a' := ?_) #[true, true, true, true, true, true, true, true, true, true, true, false, false, false, false, false, false, false] rfl rfl (any_of HT_.out (by kernel_rfl)) (fun _ _ _ h => h) (Or.inl ⟨by rfl, ?_⟩) ?_ ?_
    rotate_left
    · intro w'
      go_simp
      with_reducible rfl
    rotate_left
    · simp only [Act.put, List.setIfInBounds_toArray, List.set_cons_zero, List.set_cons_succ, i64_w, i32_w]
      rfl
    refine last_ (i := 11) (N := some 50) #[true, true, true, true, true, true, true, true, true, true, true, true, false, false, false, false, false, false] rfl rfl (one_of HT_.out (by kernel_rfl)) (by decide) (fun K hK => ?_)
    refine goes_ Tryd.func42 (by kernel_rfl) rfl #[.iface 69 (.pointer (some ⟨rb, 0, none⟩)), .slice X m cb] (by rfl) rfl rfl (by simp only [List.map_toArray, List.map_cons, List.map_nil]; rfl) ?_
    with_reducible refine (HZ.out _).mono ?_
    rintro e w5 ⟨rfl, hq⟩
    refine ⟨_, rfl, ?_⟩
    have HS5 : Aside0 (St w0 w5 sc rb A D c (pos + 4 + m) .nilIface (.slice X n cb) ds1) := ⟨by have := HSa.out.same (hHeld.1.trans hq); rw [HQ2.out]; exact this⟩
    have HF5 : Aside0 (Far w w5 (fun i => i = sc ∨ i = rb ∨ ∃ ad, X = some ad ∧ i = ad.block)) := ⟨(HF4.out.mono (fun i q => by rcases q with q | q; exact Or.inl q; exact Or.inr (Or.inl q))).trans (Far.of_same (hHeld.1.trans hq) _)⟩
    have HP5 : Aside0 (Pay w0.heap.size w5 sc rb X m cb) := ⟨(HP3.out.far (Far.of_same (hHeld.1.trans hq) _)).to (by have := HQ2.out; omega)⟩
    clear hq
    have hc1_ := (St_cells HS5.out).2.1
    have hz1_ := (St_cells HS5.out).2.2.2.1
    refine hK.out _ _ ?_
    clear hK K
    refine norm_ (a' := ?_) ?_ ?_
    rotate_left
    · show Act.put _ (some 50) _ = _
      simp only [Act.put, List.setIfInBounds_toArray, List.set_cons_zero, List.set_cons_succ, i64_w, i32_w]
      rfl
    refine pure_ (i := 12) (N := some 38) (v := ?_) (a' := ?_) #[true, true, true, true, true, true, true, true, true, true, true, true, true, false, false, false, false, false] rfl rfl (any_of HT_.out (by kernel_rfl)) (fun _ _ _ h => h) (Or.inl ⟨by rfl, ?_⟩) ?_ ?_
    rotate_left
    · intro w'
      go_simp
      with_reducible rfl
    rotate_left
    · simp only [Act.put, List.setIfInBounds_toArray, List.set_cons_zero, List.set_cons_succ, i64_w, i32_w]
      rfl
    refine pure_ (i := 13) (N := some 51) (v := ?_) (a' := ?_) #[true, true, true, true, true, true, true, true, true, true, true, true, true, true, false, false, false, false] rfl rfl (any_of HT_.out (by kernel_rfl)) (fun _ _ _ h => h) (Or.inl ⟨by rfl, ?_⟩) ?_ ?_
    rotate_left
    · intro w'
      go_simp
      with_reducible rfl
    rotate_left
    · simp only [Act.put, List.setIfInBounds_toArray, List.set_cons_zero, List.set_cons_succ, i64_w, i32_w]
      rfl
    refine pure_ (i := 14) (N := some 52) (v := ?_) (a' := ?_) #[true, true, true, true, true, true, true, true, true, true, true, true, true, true, true, false, false, false] rfl rfl (any_of HT_.out (by kernel_rfl)) (fun _ _ _ h => h) (Or.inl ⟨by rfl, ?_⟩) ?_ ?_
    rotate_left
    · intro w'
      go_simp
      with_reducible rfl
    rotate_left
    · simp only [Act.put, List.setIfInBounds_toArray, List.set_cons_zero, List.set_cons_succ, i64_w, i32_w]
      rfl
    refine pure_ (i := 15) (N := some 53) (v := ?_) (a' := ?_) #[true, true, true, true, true, true, true, true, true, true, true, true, true, true, true, true, false, false] rfl rfl (any_of HT_.out (by kernel_rfl)) (fun _ _ _ h => h) (Or.inl ⟨by rfl, ?_⟩) ?_ ?_
    rotate_left
    · intro w'
      go_simp
      with_reducible rfl
    rotate_left
    · simp only [Act.put, List.setIfInBounds_toArray, List.set_cons_zero, List.set_cons_succ, i64_w, i32_w]
      rfl
    refine pure_ (i := 16) (N := some 54) (v := ?_) (a' := ?_) #[true, true, true, true, true, true, true, true, true, true, true, true, true, true, true, true, true, false] rfl rfl (any_of HT_.out (by kernel_rfl)) (fun _ _ _ h => h) (Or.inl ⟨by rfl, ?_⟩) ?_ ?_
    rotate_left
    · intro w'
      go_simp
      with_reducible rfl
    rotate_left
    · simp only [Act.put, List.setIfInBounds_toArray, List.set_cons_zero, List.set_cons_succ, i64_w, i32_w]
      rfl
    refine last_ (i := 17) (N := none) #[true, true, true, true, true, true, true, true, true, true, true, true, true, true, true, true, true, true] rfl rfl (one_of HT_.out (by kernel_rfl)) (by decide) (fun K hK => ?_)
    refine skip_ (w1 := ?_) (by rfl) rfl ?_ ?_
    rotate_left
    · go_simp
      rfl
    refine hK.out _ _ ?_
    clear hK K
    refine done_ (done_of HT_.out (by kernel_rfl)) ?_
    clear hHeld hc1_ hz1_
    have HS6 := Aside0.mk (St_err HS5.out .nilIface)
    have HF6 : Aside0 (Far w (w5.setCell ⟨sc, 1, none⟩ .nilIface) (fun i => i = sc ∨ i = rb ∨ ∃ ad, X = some ad ∧ i = ad.block)) := ⟨HF5.out.set (Or.inl rfl) _⟩
    have HC6 : Aside0 (Kd.C (Kd.int .u8) (w5.setCell ⟨sc, 1, none⟩ .nilIface) X m ((D.drop (pos + 4)).take m)) := ⟨by rw [HQ2.out]; exact C_zero _ _ _⟩
    have HP6 : Aside0 (Pay w0.heap.size (w5.setCell ⟨sc, 1, none⟩ .nilIface) sc rb X m cb) := ⟨HP5.out.far ((Far.refl _ _).set (Or.inl rfl) _)⟩
    generalize w5.setCell ⟨sc, 1, none⟩ .nilIface = w6 at HS6 HF6 HC6 HP6 ⊢
    have hc1_ := (St_cells HS6.out).2.1
    have hc2_ := (St_cells HS6.out).2.2.1
    have hz2_ := (St_cells HS6.out).2.2.2.2
    go_upto_region 14 with fail
    clear hc1_ hc2_ hz2_ hcutP
    have HS7 := Aside0.mk (St_pay HS6.out (.slice X m cb))
    have HF7 : Aside0 (Far w (w6.setCell ⟨sc, 2, none⟩ (.slice X m cb)) (fun i => i = sc ∨ i = rb ∨ ∃ ad, X = some ad ∧ i = ad.block)) := ⟨HF6.out.set (Or.inl rfl) _⟩
    have HC7 : Aside0 (Kd.C (Kd.int .u8) (w6.setCell ⟨sc, 2, none⟩ (.slice X m cb)) X m ((D.drop (pos + 4)).take m)) := ⟨C_far HC6.out HP6.out (by simp)⟩
    have HP7 : Aside0 (Pay w0.heap.size (w6.setCell ⟨sc, 2, none⟩ (.slice X m cb)) sc rb X m cb) := ⟨HP6.out.far ((Far.refl _ _).set (Or.inl rfl) _)⟩
    generalize w6.setCell ⟨sc, 2, none⟩ (.slice X m cb) = w7 at HS7 HF7 HC7 HP7 ⊢
    have HC2 := Aside0.mk (St_cells HS7.out).2.2.1
    have hl5 : ((D.drop (pos + 4)).take m).length = m := by rw [List.length_take, List.length_drop]; omega
    have HN : Aside0 (∀ AP W, Below w7.heap.size w7 W → Kd.C (Kd.int .u8) W AP 4 [69, 82, 82, 32] → Calls Tryd.prog 43 #[.slice X m cb, .slice AP 4 4] W fun e w' => e = .returned (.bool false) ∧ Drawn0 W w') := ⟨fun AP W hb hp => by
      have := noPre X AP cb ((D.drop (pos + 4)).take m) W (by rw [hl5]; exact Kd.C_below HC7.out hb) (by rw [hl5]; have := HP7.out.n; omega) hp HNO.out
      rw [hl5] at this
      exact this⟩
    refine start_ (n := 6) (S := fun w' => Below w7.heap.size w7 w' ∧ w'.cell? ⟨sc, 2, none⟩ = some (.slice X m cb)) (ds := [5]) #[false, false, false, false, false, false] (by kernel_rfl) rfl rfl ⟨((Same.drew _).below _), (Same.cell (Same.drew _) HC2.out)⟩ (fun hHeld => ?_)
    refine with_tabW scan14.tab14 scan14.bits14 (fun HT_ HW_ => ?_)
    generalize World.drew _ = wk at hHeld ⊢
    refine pure_ (i := 0) (N := some 69) (v := ?_) (a' := ?_) #[true, false, false, false, false, false] rfl rfl (any_of HT_.out (by kernel_rfl)) (fun _ _ _ h => h) (Or.inl ⟨by rfl, ?_⟩) ?_ ?_
    rotate_left
    · intro w'
      go_simp
      with_reducible rfl
    rotate_left
    · simp only [Act.put, List.setIfInBounds_toArray, List.set_cons_zero, List.set_cons_succ, i64_w, i32_w]
      rfl
    refine pure_ (i := 1) (N := some 70) (v := ?_) (a' := ?_) #[true, true, false, false, false, false] rfl rfl (any_of HT_.out (by kernel_rfl)) (fun _ _ _ h => h) (Or.inl ⟨by rfl, ?_⟩) ?_ ?_
    rotate_left
    · intro w'
      go_simp
      with_reducible rfl
    rotate_left
    · simp only [Act.put, List.setIfInBounds_toArray, List.set_cons_zero, List.set_cons_succ, i64_w, i32_w]
      rfl
    refine pure_ (i := 2) (N := some 71) (v := ?_) (a' := ?_) #[true, true, true, false, false, false] rfl rfl (any_of HT_.out (by kernel_rfl)) (fun _ _ _ h => h) (Or.inl ⟨by rfl, ?_⟩) ?_ ?_
    rotate_left
    · intro w'
      go_simp
      with_reducible rfl
    rotate_left
    · simp only [Act.put, List.setIfInBounds_toArray, List.set_cons_zero, List.set_cons_succ, i64_w, i32_w]
      rfl
    refine take_ (i := 3) (N := some 72) (v := ?_) (a' := ?_) #[true, true, true, true, false, false] rfl rfl (take_ofW HT_.out HW_.out (by kernel_rfl)) (fun _ _ _ h => h) (Or.inl ⟨by rfl, ?_⟩) hHeld ?_ ?_
    rotate_left
    · rintro w' ⟨s0, s1⟩
      go_simp
      with_reducible rfl
    rotate_left
    · simp only [Act.put, List.setIfInBounds_toArray, List.set_cons_zero, List.set_cons_succ, i64_w, i32_w]
      rfl
    refine one_ (i := 4) (N := some 73) #[true, true, true, true, true, false] rfl rfl (one_of HT_.out (by kernel_rfl)) (by decide) (fun K hK => ?_)
    refine goes_ Tryd.func44 (by kernel_rfl) rfl #[] (by rfl) rfl rfl (by simp only [List.map_toArray, List.map_nil]) ?_
    with_reducible refine (errPre _).mono ?_
    rintro e w8 ⟨AP, rfl, hCP, hBP⟩
    refine ⟨_, rfl, ?_⟩
    have HB8 : Aside0 (Below w7.heap.size w7 w8) := ⟨hHeld.1.trans (hBP.mono hHeld.1.size)⟩
    clear hBP hHeld
    refine hK.out _ _ ⟨HB8.out, (pw_cell_below HB8.out HC2.out)⟩ (fun hHeld => ?_)
    clear hK K
    refine norm_ (a' := ?_) ?_ ?_
    rotate_left
    · show Act.put _ (some 73) _ = _
      simp only [Act.put, List.setIfInBounds_toArray, List.set_cons_zero, List.set_cons_succ, i64_w, i32_w]
      rfl
    refine last_ (i := 5) (N := some 74) #[true, true, true, true, true, true] rfl rfl (one_of HT_.out (by kernel_rfl)) (by decide) (fun K hK => ?_)
    refine goes_ Tryd.func43 (by kernel_rfl) rfl #[.slice X m cb, .slice AP 4 4] (by rfl) rfl rfl (by simp only [List.map_toArray, List.map_cons, List.map_nil]; rfl) ?_
    with_reducible refine (HN.out AP w8 HB8.out hCP).mono ?_
    rintro e w9 ⟨rfl, hd9⟩
    refine ⟨_, rfl, ?_⟩
    have HB9 : Aside0 (Below w7.heap.size w7 w9) := ⟨HB8.out.trans ((Drawn0.below hd9).mono HB8.out.size)⟩
    clear hd9
    refine hK.out _ _ ?_
    clear hK K
    refine norm_ (a' := ?_) ?_ ?_
    rotate_left
    · show Act.put _ (some 74) _ = _
      simp only [Act.put, List.setIfInBounds_toArray, List.set_cons_zero, List.set_cons_succ, i64_w, i32_w]
      rfl
    refine done_ (done_of HT_.out (by kernel_rfl)) ?_
    go_wp2
    go_ret
    exact ⟨rfl, X, cb, ds1, St_below HS7.out HB9.out, HP7.out.below HB9.out, Kd.C_below HC7.out HB9.out, HF7.out.trans (Far.of_below HB9.out _), fun ad q => Or.inl q⟩
  · show _
    obtain ⟨ad, hX⟩ : ∃ ad, X = some ad := by
      rcases X with _ | ad
      · have := HP.out.z rfl
        omega
      · exact ⟨ad, rfl⟩
    obtain ⟨g, cur, e1, hblk, hsz, hgB, hgs, hgr⟩ := HP3.out.s ad hX
    subst e1
    subst hX
    have HGS : Aside0 (g ≠ sc ∧ g ≠ rb ∧ w0.heap.size ≤ g) := ⟨hgs, hgr, hgB⟩
    have HBL := Aside0.mk hblk
    clear hblk hgB hgs hgr
    have hcp0 : decide ((cb : Int) < (m : Int)) = false := decide_eq_false (by omega)
    have hcp1 : decide (cb < m) = false := decide_eq_false (by omega)
    have hc1_ := (St_cells HS3.out).2.1
    have hc2_ := (St_cells HS3.out).2.2.1
    go_upto_region 10 with fail
    clear hc1_ hc2_ hcp0 hcp1
    have HSa := HS3
    have HC0 := Aside0.mk (St_cells HSa.out).1
    have HC2 := Aside0.mk (St_cells HSa.out).2.2.1
    have HRD : Aside0 (∀ W, Same we W → Calls Tryd.prog 42 #[.iface 69 (.pointer (some ⟨rb, 0, none⟩)), .slice (some ⟨g, 0, none⟩) m cb] W fun e w' => e = .returned (.tuple #[.int .i64 (m : Int), .nilIface]) ∧ Rd W w' rb g 0 A D c (pos + 4) m (cur).toList 5) := ⟨fun W hW => by
      obtain ⟨pr, hr⟩ := HSa.out.r
      have hsb := HSa.out.b
      exact fullAll rb g 0 m cb A c D (pos + 4) pr (cur).toList 5 aE W (hW.blk hr) (hW.blk (HBL.out)) (HGS.out.2.1.symm) (by rw [Array.length_toList]; omega) (by omega) (HD.out.r W (hsb.trans (hW.below _))) HD.out.c (hW.cell (HS0.out.below hsb).e) (by omega) m (by omega) (by omega)⟩
    have hcutP := toA (some ⟨g, 0, none⟩) n cb m (by omega)
    refine start_ (n := 18) (S := fun w' => Same we w' ∧ w'.cell? ⟨sc, 0, none⟩ = some (.iface 69 (.pointer (some ⟨rb, 0, none⟩))) ∧ w'.cell? ⟨sc, 2, none⟩ = some (.slice (some ⟨g, 0, none⟩) n cb)) (ds := [11, 17]) #[false, false, false, false, false, false, false, false, false, false, false, false, false, false, false, false, false, false] (by kernel_rfl) rfl rfl ⟨(Same.drew _), (Same.cell (Same.drew _) HC0.out), (Same.cell (Same.drew _) HC2.out)⟩ (fun hHeld => ?_)
    refine with_tabW scan10.tab10 scan10.bits10 (fun HT_ HW_ => ?_)
    generalize World.drew _ = wi at hHeld ⊢
    refine pure_ (i := 0) (N := some 39) (v := ?_) (a' := ?_) #[true, false, false, false, false, false, false, false, false, false, false, false, false, false, false, false, false, false] rfl rfl (any_of HT_.out (by kernel_rfl)) (fun _ _ _ h => h) (Or.inl ⟨by rfl, ?_⟩) ?_ ?_
    rotate_left
    · intro w'
      go_simp
      with_reducible rfl
    rotate_left
    · simp only [Act.put, List.setIfInBounds_toArray, List.set_cons_zero, List.set_cons_succ, i64_w, i32_w]
      rfl
    refine pure_ (i := 1) (N := some 40) (v := ?_) (a' := ?_) #[true, true, false, false, false, false, false, false, false, false, false, false, false, false, false, false, false, false] rfl rfl (any_of HT_.out (by kernel_rfl)) (fun _ _ _ h => h) (Or.inl ⟨by rfl, ?_⟩) ?_ ?_
    rotate_left
    · intro w'
      go_simp
      with_reducible rfl
    rotate_left
    · simp only [Act.put, List.setIfInBounds_toArray, List.set_cons_zero, List.set_cons_succ, i64_w, i32_w]
      rfl
    refine pure_ (i := 2) (N := some 41) (v := ?_) (a' := ?_) #[true, true, true, false, false, false, false, false, false, false, false, false, false, false, false, false, false, false] rfl rfl (any_of HT_.out (by kernel_rfl)) (fun _ _ _ h => h) (Or.inl ⟨by rfl, ?_⟩) ?_ ?_
    rotate_left
    · intro w'
      go_simp
      with_reducible rfl
    rotate_left
    · simp only [Act.put, List.setIfInBounds_toArray, List.set_cons_zero, List.set_cons_succ, i64_w, i32_w]
      rfl
    refine pure_ (i := 3) (N := some 42) (v := ?_) (a' := ?_) #[true, true, true, true, false, false, false, false, false, false, false, false, false, false, false, false, false, false] rfl rfl (any_of HT_.out (by kernel_rfl)) (fun _ _ _ h => h) (Or.inl ⟨by rfl, ?_⟩) ?_ ?_
    rotate_left
    · intro w'
      go_simp
      with_reducible rfl
    rotate_left
    · simp only [Act.put, List.setIfInBounds_toArray, List.set_cons_zero, List.set_cons_succ, i64_w, i32_w]
      rfl
    refine pure_ (i := 5) (N := some 44) (v := ?_) (a' := ?_) #[true, true, true, true, false, true, false, false, false, false, false, false, false, false, false, false, false, false] rfl rfl (any_of HT_.out (by kernel_rfl)) (fun _ _ _ h => h) (Or.inl ⟨by rfl, ?_⟩) ?_ ?_
    rotate_left
    · intro w'
      go_simp
      with_reducible rfl
    rotate_left
    · simp only [Act.put, List.setIfInBounds_toArray, List.set_cons_zero, List.set_cons_succ, i64_w, i32_w]
      rfl
    refine pure_ (i := 6) (N := some 45) (v := ?_) (a' := ?_) #[true, true, true, true, false, true, true, false, false, false, false, false, false, false, false, false, false, false] rfl rfl (any_of HT_.out (by kernel_rfl)) (fun _ _ _ h => h) (Or.inl ⟨by rfl, ?_⟩) ?_ ?_
    rotate_left
    · intro w'
      go_simp
      with_reducible rfl
    rotate_left
    · simp only [Act.put, List.setIfInBounds_toArray, List.set_cons_zero, List.set_cons_succ, i64_w, i32_w]
      rfl
    refine pure_ (i := 7) (N := some 46) (v := ?_) (a' := ?_) #[true, true, true, true, false, true, true, true, false, false, false, false, false, false, false, false, false, false] rfl rfl (any_of HT_.out (by kernel_rfl)) (fun _ _ _ h => h) (Or.inl ⟨by rfl, ?_⟩) ?_ ?_
    rotate_left
    · intro w'
      go_simp
      with_reducible rfl
    rotate_left
    · simp only [Act.put, List.setIfInBounds_toArray, List.set_cons_zero, List.set_cons_succ, i64_w, i32_w]
      rfl
    refine pure_ (i := 9) (N := some 48) (v := ?_) (a' := ?_) #[true, true, true, true, false, true, true, true, false, true, false, false, false, false, false, false, false, false] rfl rfl (any_of HT_.out (by kernel_rfl)) (fun _ _ _ h => h) (Or.inl ⟨by rfl, ?_⟩) ?_ ?_
    rotate_left
    · intro w'
      go_simp
      with_reducible rfl
    rotate_left
    · simp only [Act.put, List.setIfInBounds_toArray, List.set_cons_zero, List.set_cons_succ, i64_w, i32_w]
      rfl
    refine take_ (i := 4) (N := some 43) (v := ?_) (a' := ?_) #[true, true, true, true, true, true, true, true, false, true, false, false, false, false, false, false, false, false] rfl rfl (take_ofW HT_.out HW_.out (by kernel_rfl)) (fun _ _ _ h => h) (Or.inl ⟨by rfl, ?_⟩) hHeld ?_ ?_
    rotate_left
    · rintro w' ⟨s0, s1, s2⟩
      go_simp
      with_reducible rfl
    rotate_left
    · simp only [Act.put, List.setIfInBounds_toArray, List.set_cons_zero, List.set_cons_succ, i64_w, i32_w]
      rfl
    refine take_ (i := 8) (N := some 47) (v := ?_) (a' := ?_) #[true, true, true, true, true, true, true, true, true, true, false, false, false, false, false, false, false, false] rfl rfl (take_ofW HT_.out HW_.out (by kernel_rfl)) (fun _ _ _ h => h) (Or.inl ⟨by rfl, ?_⟩) hHeld ?_ ?_
    rotate_left
    · rintro w' ⟨s0, s1, s2⟩
      go_simp
      with_reducible rfl
    rotate_left
    · simp only [Act.put, List.setIfInBounds_toArray, List.set_cons_zero, List.set_cons_succ, i64_w, i32_w]
      rfl
    refine pure_ (i := 10) (N := some 49) (v := ?_) (a' := ?_) #[true, true, true, true, true, true, true, true, true, true, true, false, false, false, false, false, false, false] rfl rfl (any_of HT_.out (by kernel_rfl)) (fun _ _ _ h => h) (Or.inl ⟨by rfl, ?_⟩) ?_ ?_
    rotate_left
    · intro w'
      go_simp
      with_reducible rfl
    rotate_left
    · simp only [Act.put, List.setIfInBounds_toArray, List.set_cons_zero, List.set_cons_succ, i64_w, i32_w]
      rfl
    refine last_ (i := 11) (N := some 50) #[true, true, true, true, true, true, true, true, true, true, true, true, false, false, false, false, false, false] rfl rfl (one_of HT_.out (by kernel_rfl)) (by decide) (fun K hK => ?_)
    refine goes_ Tryd.func42 (by kernel_rfl) rfl #[.iface 69 (.pointer (some ⟨rb, 0, none⟩)), .slice (some ⟨g, 0, none⟩) m cb] (by rfl) rfl rfl (by simp only [List.map_toArray, List.map_cons, List.map_nil]; rfl) ?_
    with_reducible refine (HRD.out _ hHeld.1).mono ?_
    rintro e w5 ⟨rfl, hq⟩
    refine ⟨_, rfl, ?_⟩
    have HS5 : Aside0 (St w0 w5 sc rb A D c (pos + 4 + m) .nilIface (.slice (some ⟨g, 0, none⟩) n cb) ds1) := ⟨St_body (HSa.out.same hHeld.1) hq HGS.out.1 HGS.out.2.2⟩
    have HF5 : Aside0 (Far w w5 (fun i => i = sc ∨ i = rb ∨ ∃ ad, some (⟨g, 0, none⟩ : Addr) = some ad ∧ i = ad.block)) := ⟨((HF4.out.mono (fun i q => by rcases q with q | q; exact Or.inl q; exact Or.inr (Or.inl q))).trans (Far.of_same hHeld.1 _)).trans (hq.f.mono (fun i q => by rcases q with q | q; exact Or.inr (Or.inr ⟨_, rfl, q⟩); exact Or.inr (Or.inl q)))⟩
    have HG5 : Aside0 (∃ C : Array Value, w5.heap[g]? = some (.cells C 5 (0, 0)) ∧ C.size = cb ∧ ∀ j x, ((D.drop (pos + 4)).take m)[j]? = some x → C.toList[0 + j]? = some (.int .u8 x)) := ⟨_, hq.g, by rw [List.size_toArray, splice_len _ _ _ (by rw [seg_len _ _ _ (by omega), Array.length_toList]; omega), Array.length_toList]; omega, fun j x hx => by rw [List.toList_toArray]; exact splice_seg _ _ _ _ _ _ hx⟩
    clear hq
    have hc1_ := (St_cells HS5.out).2.1
    have hz1_ := (St_cells HS5.out).2.2.2.1
    refine hK.out _ _ ?_
    clear hK K
    refine norm_ (a' := ?_) ?_ ?_
    rotate_left
    · show Act.put _ (some 50) _ = _
      simp only [Act.put, List.setIfInBounds_toArray, List.set_cons_zero, List.set_cons_succ, i64_w, i32_w]
      rfl
    refine pure_ (i := 12) (N := some 38) (v := ?_) (a' := ?_) #[true, true, true, true, true, true, true, true, true, true, true, true, true, false, false, false, false, false] rfl rfl (any_of HT_.out (by kernel_rfl)) (fun _ _ _ h => h) (Or.inl ⟨by rfl, ?_⟩) ?_ ?_
    rotate_left
    · intro w'
      go_simp
      with_reducible rfl
    rotate_left
    · simp only [Act.put, List.setIfInBounds_toArray, List.set_cons_zero, List.set_cons_succ, i64_w, i32_w]
      rfl
    refine pure_ (i := 13) (N := some 51) (v := ?_) (a' := ?_) #[true, true, true, true, true, true, true, true, true, true, true, true, true, true, false, false, false, false] rfl rfl (any_of HT_.out (by kernel_rfl)) (fun _ _ _ h => h) (Or.inl ⟨by rfl, ?_⟩) ?_ ?_
    rotate_left
    · intro w'
      go_simp
      with_reducible rfl
    rotate_left
    · simp only [Act.put, List.setIfInBounds_toArray, List.set_cons_zero, List.set_cons_succ, i64_w, i32_w]
      rfl
    refine pure_ (i := 14) (N := some 52) (v := ?_) (a' := ?_) #[true, true, true, true, true, true, true, true, true, true, true, true, true, true, true, false, false, false] rfl rfl (any_of HT_.out (by kernel_rfl)) (fun _ _ _ h => h) (Or.inl ⟨by rfl, ?_⟩) ?_ ?_
    rotate_left
    · intro w'
      go_simp
      with_reducible rfl
    rotate_left
    · simp only [Act.put, List.setIfInBounds_toArray, List.set_cons_zero, List.set_cons_succ, i64_w, i32_w]
      rfl
    refine pure_ (i := 15) (N := some 53) (v := ?_) (a' := ?_) #[true, true, true, true, true, true, true, true, true, true, true, true, true, true, true, true, false, false] rfl rfl (any_of HT_.out (by kernel_rfl)) (fun _ _ _ h => h) (Or.inl ⟨by rfl, ?_⟩) ?_ ?_
    rotate_left
    · intro w'
      go_simp
      with_reducible rfl
    rotate_left
    · simp only [Act.put, List.setIfInBounds_toArray, List.set_cons_zero, List.set_cons_succ, i64_w, i32_w]
      rfl
    refine pure_ (i := 16) (N := some 54) (v := ?_) (a' := ?_) #[true, true, true, true, true, true, true, true, true, true, true, true, true, true, true, true, true, false] rfl rfl (any_of HT_.out (by kernel_rfl)) (fun _ _ _ h => h) (Or.inl ⟨by rfl, ?_⟩) ?_ ?_
    rotate_left
    · intro w'
      go_simp
      with_reducible rfl
    rotate_left
    · simp only [Act.put, List.setIfInBounds_toArray, List.set_cons_zero, List.set_cons_succ, i64_w, i32_w]
      rfl
    refine last_ (i := 17) (N := none) #[true, true, true, true, true, true, true, true, true, true, true, true, true, true, true, true, true, true] rfl rfl (one_of HT_.out (by kernel_rfl)) (by decide) (fun K hK => ?_)
    refine skip_ (w1 := ?_) (by rfl) rfl ?_ ?_
    rotate_left
    · go_simp
      rfl
    refine hK.out _ _ ?_
    clear hK K
    refine done_ (done_of HT_.out (by kernel_rfl)) ?_
    clear hHeld hc1_ hz1_
    have HS6 := Aside0.mk (St_err HS5.out .nilIface)
    have HF6 : Aside0 (Far w (w5.setCell ⟨sc, 1, none⟩ .nilIface) (fun i => i = sc ∨ i = rb ∨ ∃ ad, some (⟨g, 0, none⟩ : Addr) = some ad ∧ i = ad.block)) := ⟨HF5.out.set (Or.inl rfl) _⟩
    have HC6 : Aside0 (Kd.C (Kd.int .u8) (w5.setCell ⟨sc, 1, none⟩ .nilIface) (some ⟨g, 0, none⟩) m ((D.drop (pos + 4)).take m)) := ⟨row_C HG5.out HGS.out.1 hm6 (by rw [List.length_take, List.length_drop]; omega)⟩
    have HP6 : Aside0 (Pay w0.heap.size (w5.setCell ⟨sc, 1, none⟩ .nilIface) sc rb (some ⟨g, 0, none⟩) m cb) := ⟨row_P HG5.out HGS.out.1 HGS.out.2.1 HGS.out.2.2 (by omega)⟩
    generalize w5.setCell ⟨sc, 1, none⟩ .nilIface = w6 at HS6 HF6 HC6 HP6 ⊢
    have hc1_ := (St_cells HS6.out).2.1
    have hc2_ := (St_cells HS6.out).2.2.1
    have hz2_ := (St_cells HS6.out).2.2.2.2
    go_upto_region 14 with fail
    clear hc1_ hc2_ hz2_ hcutP
    have HS7 := Aside0.mk (St_pay HS6.out (.slice (some ⟨g, 0, none⟩) m cb))
    have HF7 : Aside0 (Far w (w6.setCell ⟨sc, 2, none⟩ (.slice (some ⟨g, 0, none⟩) m cb)) (fun i => i = sc ∨ i = rb ∨ ∃ ad, some (⟨g, 0, none⟩ : Addr) = some ad ∧ i = ad.block)) := ⟨HF6.out.set (Or.inl rfl) _⟩
    have HC7 : Aside0 (Kd.C (Kd.int .u8) (w6.setCell ⟨sc, 2, none⟩ (.slice (some ⟨g, 0, none⟩) m cb)) (some ⟨g, 0, none⟩) m ((D.drop (pos + 4)).take m)) := ⟨C_far HC6.out HP6.out (by simp)⟩
    have HP7 : Aside0 (Pay w0.heap.size (w6.setCell ⟨sc, 2, none⟩ (.slice (some ⟨g, 0, none⟩) m cb)) sc rb (some ⟨g, 0, none⟩) m cb) := ⟨HP6.out.far ((Far.refl _ _).set (Or.inl rfl) _)⟩
    generalize w6.setCell ⟨sc, 2, none⟩ (.slice (some ⟨g, 0, none⟩) m cb) = w7 at HS7 HF7 HC7 HP7 ⊢
    have HC2 := Aside0.mk (St_cells HS7.out).2.2.1
    have hl5 : ((D.drop (pos + 4)).take m).length = m := by rw [List.length_take, List.length_drop]; omega
    have HN : Aside0 (∀ AP W, Below w7.heap.size w7 W → Kd.C (Kd.int .u8) W AP 4 [69, 82, 82, 32] → Calls Tryd.prog 43 #[.slice (some ⟨g, 0, none⟩) m cb, .slice AP 4 4] W fun e w' => e = .returned (.bool false) ∧ Drawn0 W w') := ⟨fun AP W hb hp => by
      have := noPre (some ⟨g, 0, none⟩) AP cb ((D.drop (pos + 4)).take m) W (by rw [hl5]; exact Kd.C_below HC7.out hb) (by rw [hl5]; have := HP7.out.n; omega) hp HNO.out
      rw [hl5] at this
      exact this⟩
    refine start_ (n := 6) (S := fun w' => Below w7.heap.size w7 w' ∧ w'.cell? ⟨sc, 2, none⟩ = some (.slice (some ⟨g, 0, none⟩) m cb)) (ds := [5]) #[false, false, false, false, false, false] (by kernel_rfl) rfl rfl ⟨((Same.drew _).below _), (Same.cell (Same.drew _) HC2.out)⟩ (fun hHeld => ?_)
    refine with_tabW scan14.tab14 scan14.bits14 (fun HT_ HW_ => ?_)
    generalize World.drew _ = wk at hHeld ⊢
    refine pure_ (i := 0) (N := some 69) (v := ?_) (a' := ?_) #[true, false, false, false, false, false] rfl rfl (any_of HT_.out (by kernel_rfl)) (fun _ _ _ h => h) (Or.inl ⟨by rfl, ?_⟩) ?_ ?_
    rotate_left
    · intro w'
      go_simp
      with_reducible rfl
    rotate_left
    · simp only [Act.put, List.setIfInBounds_toArray, List.set_cons_zero, List.set_cons_succ, i64_w, i32_w]
      rfl
    refine pure_ (i := 1) (N := some 70) (v := ?_) (a' := ?_) #[true, true, false, false, false, false] rfl rfl (any_of HT_.out (by kernel_rfl)) (fun _ _ _ h => h) (Or.inl ⟨by rfl, ?_⟩) ?_ ?_
    rotate_left
    · intro w'
      go_simp
      with_reducible rfl
    rotate_left
    · simp only [Act.put, List.setIfInBounds_toArray, List.set_cons_zero, List.set_cons_succ, i64_w, i32_w]
      rfl
    refine pure_ (i := 2) (N := some 71) (v := ?_) (a' := ?_) #[true, true, true, false, false, false] rfl rfl (any_of HT_.out (by kernel_rfl)) (fun _ _ _ h => h) (Or.inl ⟨by rfl, ?_⟩) ?_ ?_
    rotate_left
    · intro w'
      go_simp
      with_reducible rfl
    rotate_left
    · simp only [Act.put, List.setIfInBounds_toArray, List.set_cons_zero, List.set_cons_succ, i64_w, i32_w]
      rfl
    refine take_ (i := 3) (N := some 72) (v := ?_) (a' := ?_) #[true, true, true, true, false, false] rfl rfl (take_ofW HT_.out HW_.out (by kernel_rfl)) (fun _ _ _ h => h) (Or.inl ⟨by rfl, ?_⟩) hHeld ?_ ?_
    rotate_left
    · rintro w' ⟨s0, s1⟩
      go_simp
      with_reducible rfl
    rotate_left
    · simp only [Act.put, List.setIfInBounds_toArray, List.set_cons_zero, List.set_cons_succ, i64_w, i32_w]
      rfl
    refine one_ (i := 4) (N := some 73) #[true, true, true, true, true, false] rfl rfl (one_of HT_.out (by kernel_rfl)) (by decide) (fun K hK => ?_)
    refine goes_ Tryd.func44 (by kernel_rfl) rfl #[] (by rfl) rfl rfl (by simp only [List.map_toArray, List.map_nil]) ?_
    with_reducible refine (errPre _).mono ?_
    rintro e w8 ⟨AP, rfl, hCP, hBP⟩
    refine ⟨_, rfl, ?_⟩
    have HB8 : Aside0 (Below w7.heap.size w7 w8) := ⟨hHeld.1.trans (hBP.mono hHeld.1.size)⟩
    clear hBP hHeld
    refine hK.out _ _ ⟨HB8.out, (pw_cell_below HB8.out HC2.out)⟩ (fun hHeld => ?_)
    clear hK K
    refine norm_ (a' := ?_) ?_ ?_
    rotate_left
    · show Act.put _ (some 73) _ = _
      simp only [Act.put, List.setIfInBounds_toArray, List.set_cons_zero, List.set_cons_succ, i64_w, i32_w]
      rfl
    refine last_ (i := 5) (N := some 74) #[true, true, true, true, true, true] rfl rfl (one_of HT_.out (by kernel_rfl)) (by decide) (fun K hK => ?_)
    refine goes_ Tryd.func43 (by kernel_rfl) rfl #[.slice (some ⟨g, 0, none⟩) m cb, .slice AP 4 4] (by rfl) rfl rfl (by simp only [List.map_toArray, List.map_cons, List.map_nil]; rfl) ?_
    with_reducible refine (HN.out AP w8 HB8.out hCP).mono ?_
    rintro e w9 ⟨rfl, hd9⟩
    refine ⟨_, rfl, ?_⟩
    have HB9 : Aside0 (Below w7.heap.size w7 w9) := ⟨HB8.out.trans ((Drawn0.below hd9).mono HB8.out.size)⟩
    clear hd9
    refine hK.out _ _ ?_
    clear hK K
    refine norm_ (a' := ?_) ?_ ?_
    rotate_left
    · show Act.put _ (some 74) _ = _
      simp only [Act.put, List.setIfInBounds_toArray, List.set_cons_zero, List.set_cons_succ, i64_w, i32_w]
      rfl
    refine done_ (done_of HT_.out (by kernel_rfl)) ?_
    go_wp2
    go_ret
    exact ⟨rfl, (some ⟨g, 0, none⟩), cb, ds1, St_below HS7.out HB9.out, HP7.out.below HB9.out, Kd.C_below HC7.out HB9.out, HF7.out.trans (Far.of_below HB9.out _), fun ad q => Or.inl q⟩
#print axioms scanAll

set_option maxHeartbeats 8000000 in
set_option maxRecDepth 100000 in
theorem scanCut (w0 : World) (sc rb : Nat) (A : Option Addr) (D : List Int) (c pos : Nat) (eV : Value) (X : Option Addr) (n cb : Nat) (ds : List Value) (aE aU aI : Addr) (w : World) (h : St w0 w sc rb A D c pos eV (.slice X n cb) ds) (hs : Sent w0 aE aU aI) (hD : Dat w0 A D c) (hP : Pay w0.heap.size w sc rb X n cb) (d0 d1 d2 d3 : Int) (hpos : pos + 4 ≤ D.length) (hseg : seg D pos 4 = [.int .u8 d0, .int .u8 d1, .int .u8 d2, .int .u8 d3]) (h0 : Dg d0) (h1 : Dg d1) (h2 : Dg d2) (h3 : Dg d3) (m : Nat) (hm : (hexv d0 d1 d2 d3 = 0 ∧ m = 0) ∨ (5 ≤ hexv d0 d1 d2 d3 ∧ hexv d0 d1 d2 d3 ≤ 65520 ∧ (m : Int) = hexv d0 d1 d2 d3 - 4)) (hcut : D.length < pos + 4 + m) :
    Calls Tryd.prog 30 #[.pointer (some ⟨sc, 0, none⟩)] w fun e w' => e = .returned (.bool false) ∧ ∃ a pos' PV' ds', St w0 w' sc rb A D c pos' (.iface 126 (.pointer (some a))) PV' ds' ∧ Far w w' (fun i => i = sc ∨ i = rb ∨ ∃ ad, X = some ad ∧ i = ad.block) := by
  have HST := Aside0.mk h
  have HS0 := Aside0.mk hs
  have HD := Aside0.mk hD
  have HP := Aside0.mk hP
  have HPOS := Aside0.mk hpos
  have HR := Aside0.mk (rplAll w0 sc rb A D c pos eV (.slice X n cb) ds aE aU aI w h hs hD d0 d1 d2 d3 hpos hseg h0 h1 h2 h3 m hm)
  have hm6 : m ≤ 65516 := by omega
  clear h hs hD hP hpos hseg h0 h1 h2 h3 hm
  go_enter Tryd.func30, Tryd.ntmps30
  go_upto_region 3 with (first | (go_at_call 41; (with_reducible refine HR.out.mono ?_); rintro e w1 ⟨rfl, ds1, hq, hf⟩; have HS1 := Aside0.mk hq; have HF1 := Aside0.mk hf; clear hq hf; have hc1_ := (St_cells HS1.out).2.1; have hz1_ := (St_cells HS1.out).2.2.2.1))
  have HS2 := Aside0.mk (St_err HS1.out .nilIface)
  have HF2 : Aside0 (Far w (w1.setCell ⟨sc, 1, none⟩ .nilIface) (fun i => i = sc ∨ i = rb)) := ⟨HF1.out.set (Or.inl rfl) _⟩
  clear hc1_ hz1_
  generalize w1.setCell ⟨sc, 1, none⟩ .nilIface = w2 at HS2 HF2 ⊢
  have HC1 := Aside0.mk (St_cells HS2.out).2.1
  have hsw2 := HS0.out.below HS2.out.b
  have HCE := Aside0.mk hsw2.e
  clear hsw2
  have HEQ : Aside0 (∀ W, Same w2 W → (binOp .eql 58 .nilIface (.iface 126 (.pointer (some aE)))).run Tryd.prog W = .ok (.bool false) W) := ⟨fun W _ => eqNil W _⟩
  refine start_ (n := 6) (S := fun w' => Same w2 w' ∧ w'.cell? ⟨sc, 1, none⟩ = some (.nilIface) ∧ w'.cell? ⟨0, 0, none⟩ = some (.iface 126 (.pointer (some aE))) ∧ (binOp .eql 58 (.nilIface) (.iface 126 (.pointer (some aE)))).run Tryd.prog w' = .ok (.bool false) w') (ds := []) #[false, false, false, false, false, false] (by kernel_rfl) rfl rfl ⟨(Same.drew _), (Same.cell (Same.drew _) HC1.out), (Same.cell (Same.drew _) HCE.out), (HEQ.out _ (Same.drew _))⟩ (fun hHeld => ?_)
  refine with_tabW scan3.tab3 scan3.bits3 (fun HT_ HW_ => ?_)
  generalize World.drew _ = we at hHeld ⊢
  refine pure_ (i := 0) (N := some 12) (v := ?_) (a' := ?_) #[true, false, false, false, false, false] rfl rfl (any_of HT_.out (by kernel_rfl)) (fun _ _ _ h => h) (Or.inl ⟨by rfl, ?_⟩) ?_ ?_
  rotate_left
  · intro w'
    go_simp
    with_reducible rfl
  rotate_left
  · simp only [Act.put, List.setIfInBounds_toArray, List.set_cons_zero, List.set_cons_succ, i64_w, i32_w]
    rfl
  refine pure_ (i := 1) (N := some 13) (v := ?_) (a' := ?_) #[true, true, false, false, false, false] rfl rfl (any_of HT_.out (by kernel_rfl)) (fun _ _ _ h => h) (Or.inl ⟨by rfl, ?_⟩) ?_ ?_
  rotate_left
  · intro w'
    go_simp
    with_reducible rfl
  rotate_left
  · simp only [Act.put, List.setIfInBounds_toArray, List.set_cons_zero, List.set_cons_succ, i64_w, i32_w]
    rfl
  refine pure_ (i := 2) (N := some 14) (v := ?_) (a' := ?_) #[true, true, true, false, false, false] rfl rfl (any_of HT_.out (by kernel_rfl)) (fun _ _ _ h => h) (Or.inl ⟨by rfl, ?_⟩) ?_ ?_
  rotate_left
  · intro w'
    go_simp
    with_reducible rfl
  rotate_left
  · simp only [Act.put, List.setIfInBounds_toArray, List.set_cons_zero, List.set_cons_succ, i64_w, i32_w]
    rfl
  refine take_ (i := 3) (N := some 15) (v := ?_) (a' := ?_) #[true, true, true, true, false, false] rfl rfl (take_ofW HT_.out HW_.out (by kernel_rfl)) (fun _ _ _ h => h) (Or.inl ⟨by rfl, ?_⟩) hHeld ?_ ?_
  rotate_left
  · rintro w' ⟨s0, s1, s2, s3⟩
    go_simp
    with_reducible rfl
  rotate_left
  · simp only [Act.put, List.setIfInBounds_toArray, List.set_cons_zero, List.set_cons_succ, i64_w, i32_w]
    rfl
  refine take_ (i := 4) (N := some 16) (v := ?_) (a' := ?_) #[true, true, true, true, true, false] rfl rfl (take_ofW HT_.out HW_.out (by kernel_rfl)) (fun _ _ _ h => h) (Or.inl ⟨by rfl, ?_⟩) hHeld ?_ ?_
  rotate_left
  · rintro w' ⟨s0, s1, s2, s3⟩
    go_simp
    with_reducible rfl
  rotate_left
  · simp only [Act.put, List.setIfInBounds_toArray, List.set_cons_zero, List.set_cons_succ, i64_w, i32_w]
    rfl
  refine take_ (i := 5) (N := some 17) (v := ?_) (a' := ?_) #[true, true, true, true, true, true] rfl rfl (take_ofW HT_.out HW_.out (by kernel_rfl)) (fun _ _ _ h => h) (Or.inl ⟨by rfl, ?_⟩) hHeld ?_ ?_
  rotate_left
  · rintro w' ⟨s0, s1, s2, s3⟩
    go_simp
    with_reducible rfl
  rotate_left
  · simp only [Act.put, List.setIfInBounds_toArray, List.set_cons_zero, List.set_cons_succ, i64_w, i32_w]
    rfl
  refine done_ (done_of HT_.out (by kernel_rfl)) ?_
  have HF3 : Aside0 (Same w2 we) := ⟨hHeld.1⟩
  clear hHeld
  have HS3 := Aside0.mk (HS2.out.same HF3.out)
  have HF4 : Aside0 (Far w we (fun i => i = sc ∨ i = rb)) := ⟨HF2.out.trans (Far.of_same HF3.out _)⟩
  clear HF3 HF2 HS2 HC1 HCE HEQ HS1 HF1 HR
  have hsw3 := HS0.out.below HS3.out.b
  have HP3 := Aside0.mk (HP.out.far HF4.out)
  clear hsw3
  have q2 : 0 < m := by have := HPOS.out; omega
  have HCUT := Aside0.mk hcut
  by_cases q1 : cb < m
  · show _
    have hcp0 : decide ((cb : Int) < (m : Int)) = true := decide_eq_true (by omega)
    have hcp1 : decide (cb < m) = true := decide_eq_true (by omega)
    have hc1_ := (St_cells HS3.out).2.1
    have hc2_ := (St_cells HS3.out).2.2.1
    obtain ⟨M, hMs, hmk⟩ := make5 m hm6
    have hsc : sc < we.heap.size := blk_lt HS3.out.s
    have hc2a : ∀ o, (we.alloc o).cell? ⟨sc, 2, none⟩ = some (.slice X n cb) := fun o => (World.cell?_of_block (a := ⟨sc, 2, none⟩) (Below.heap_alloc we o sc hsc)).trans hc2_
    have hz2a : ∀ o, (we.alloc o).frozen? ⟨sc, 2, none⟩ = false := fun o => (World.frozen?_of_block (a := ⟨sc, 2, none⟩) (Below.heap_alloc we o sc hsc)).trans (St_cells HS3.out).2.2.2.2
    go_upto_region 10 with fail
    clear hc1_ hc2_ hcp0 hcp1 hmk hc2a hz2a
    have HSa : Aside0 (St w0 ((we.setCell ⟨sc, 2, none⟩ (.slice (some ⟨we.heap.size, 0, none⟩) 0 m)).alloc (.cells M 5)) sc rb A D c (pos + 4) .nilIface (.slice (some ⟨we.heap.size, 0, none⟩) 0 m) ds1) := ⟨St_below (St_pay HS3.out _) (below_alloc (Below.refl _ _) _)⟩
    have HBa : Aside0 (((we.setCell ⟨sc, 2, none⟩ (.slice (some ⟨we.heap.size, 0, none⟩) 0 m)).alloc (.cells M 5)).heap[we.heap.size]? = some (.cells M 5 (0, 0))) := ⟨by have q := blk_new (we.setCell ⟨sc, 2, none⟩ (.slice (some ⟨we.heap.size, 0, none⟩) 0 m)) (.cells M 5); rw [World.size_setCell] at q; exact q⟩
    have HFa : Aside0 (Far w ((we.setCell ⟨sc, 2, none⟩ (.slice (some ⟨we.heap.size, 0, none⟩) 0 m)).alloc (.cells M 5)) (fun i => i = sc ∨ i = rb)) := ⟨(HF4.out.set (Or.inl rfl) _).trans (Far.of_below (below_alloc (Below.refl _ _) _) _)⟩
    have HGN : Aside0 (w0.heap.size ≤ we.heap.size ∧ w.heap.size ≤ we.heap.size ∧ we.heap.size ≠ sc ∧ we.heap.size ≠ rb) := ⟨HS3.out.b.size, HF4.out.size, by omega, by
      obtain ⟨pr, hr⟩ := HS3.out.r
      have := blk_lt hr
      omega⟩
    obtain ⟨gn, hgn⟩ : ∃ gn, gn = we.heap.size := ⟨_, rfl⟩
    rw [← hgn] at HSa HBa HFa HGN
    simp only [← hgn]
    generalize (we.setCell ⟨sc, 2, none⟩ (.slice (some ⟨gn, 0, none⟩) 0 m)).alloc (.cells M 5) = wf at HSa HBa HFa ⊢
    clear hgn hsc
    have HC0 := Aside0.mk (St_cells HSa.out).1
    have HC2 := Aside0.mk (St_cells HSa.out).2.2.1
    have HGS : Aside0 (gn ≠ sc ∧ gn ≠ rb ∧ w0.heap.size ≤ gn) := ⟨HGN.out.2.2.1, HGN.out.2.2.2, HGN.out.1⟩
    have HRD : Aside0 (∀ W, Same wf W → Calls Tryd.prog 42 #[.iface 69 (.pointer (some ⟨rb, 0, none⟩)), .slice (some ⟨gn, 0, none⟩) m m] W fun e w' => ∃ (z : Int) (a : Addr) (k : Nat), e = .returned (.tuple #[.int .i64 z, .iface 126 (.pointer (some a))]) ∧ k ≤ D.length - (pos + 4) ∧ RdE W w' rb gn A D c (pos + 4) k) := ⟨fun W hW => by
      obtain ⟨pr, hr⟩ := HSa.out.r
      have hsb := HSa.out.b
      have hg2 := glob_lt HS0.out
      have hbr := HSa.out.br
      have hgb := HGS.out.2.2
      have hpo := HPOS.out
      have hsw := (HS0.out.below (hsb.trans (hW.below _)))
      by_cases he : pos + 4 = D.length
      · exact (fullEnd rb gn 0 m m A c D (pos + 4) pr (M).toList 5 aE W (hW.blk hr) (hW.blk (HBa.out)) (HGS.out.2.1.symm) (by rw [Array.length_toList]; omega) (by omega) (HD.out.r W (hsb.trans (hW.below _))) HD.out.c hsw.e (by omega) he).mono (fun e w' q => ⟨0, aE, 0, q.1, Nat.zero_le _, ⟨Far.of_same q.2 _, ⟨pr, q.2.blk (hW.blk hr)⟩⟩⟩)
      · exact (fullPart rb gn 0 m m A c D (pos + 4) pr (M).toList 5 aE W (hW.blk hr) (hW.blk (HBa.out)) (HGS.out.2.1.symm) (by rw [Array.length_toList]; omega) (by omega) (HD.out.r W (hsb.trans (hW.below _))) HD.out.c hsw.e (by omega) (D.length - (pos + 4)) aU (by omega) (by omega) (by omega) hsw.u (by omega) (by omega) (by omega) (by omega)).mono (fun e w' q => ⟨_, aU, _, q.1, Nat.le_refl _, ⟨q.2.f, q.2.r⟩⟩)⟩
    have hcutP := toA (some ⟨gn, 0, none⟩) 0 m m (by omega)
    refine start_ (n := 18) (S := fun w' => Same wf w' ∧ w'.cell? ⟨sc, 0, none⟩ = some (.iface 69 (.pointer (some ⟨rb, 0, none⟩))) ∧ w'.cell? ⟨sc, 2, none⟩ = some (.slice (some ⟨gn, 0, none⟩) 0 m)) (ds := [11, 17]) #[false, false, false, false, false, false, false, false, false, false, false, false, false, false, false, false, false, false] (by kernel_rfl) rfl rfl ⟨(Same.drew _), (Same.cell (Same.drew _) HC0.out), (Same.cell (Same.drew _) HC2.out)⟩ (fun hHeld => ?_)
    refine with_tabW scan10.tab10 scan10.bits10 (fun HT_ HW_ => ?_)
    generalize World.drew _ = wi at hHeld ⊢
    refine pure_ (i := 0) (N := some 39) (v := ?_) (a' := ?_) #[true, false, false, false, false, false, false, false, false, false, false, false, false, false, false, false, false, false] rfl rfl (any_of HT_.out (by kernel_rfl)) (fun _ _ _ h => h) (Or.inl ⟨by rfl, ?_⟩) ?_ ?_
    rotate_left
    · intro w'
      go_simp
      with_reducible rfl
    rotate_left
    · simp only [Act.put, List.setIfInBounds_toArray, List.set_cons_zero, List.set_cons_succ, i64_w, i32_w]
      rfl
    refine pure_ (i := 1) (N := some 40) (v := ?_) (a' := ?_) #[true, true, false, false, false, false, false, false, false, false, false, false, false, false, false, false, false, false] rfl rfl (any_of HT_.out (by kernel_rfl)) (fun _ _ _ h => h) (Or.inl ⟨by rfl, ?_⟩) ?_ ?_
    rotate_left
    · intro w'
      go_simp
      with_reducible rfl
    rotate_left
    · simp only [Act.put, List.setIfInBounds_toArray, List.set_cons_zero, List.set_cons_succ, i64_w, i32_w]
      rfl
    refine pure_ (i := 2) (N := some 41) (v := ?_) (a' := ?_) #[true, true, true, false, false, false, false, false, false, false, false, false, false, false, false, false, false, false] rfl rfl (any_of HT_.out (by kernel_rfl)) (fun _ _ _ h => h) (Or.inl ⟨by rfl, ?_⟩) ?_ ?_
    rotate_left
    · intro w'
      go_simp
      with_reducible rfl
    rotate_left
    · simp only [Act.put, List.setIfInBounds_toArray, List.set_cons_zero, List.set_cons_succ, i64_w, i32_w]
      rfl
    refine pure_ (i := 3) (N := some 42) (v := ?_) (a' := ?_) #[true, true, true, true, false, false, false, false, false, false, false, false, false, false, false, false, false, false] rfl rfl (any_of HT_.out (by kernel_rfl)) (fun _ _ _ h => h) (Or.inl ⟨by rfl, ?_⟩) ?_ ?_
    rotate_left
    · intro w'
      go_simp
      with_reducible rfl
    rotate_left
    · simp only [Act.put, List.setIfInBounds_toArray, List.set_cons_zero, List.set_cons_succ, i64_w, i32_w]
      rfl
    refine pure_ (i := 5) (N := some 44) (v := ?_) (a' := ?_) #[true, true, true, true, false, true, false, false, false, false, false, false, false, false, false, false, false, false] rfl rfl (any_of HT_.out (by kernel_rfl)) (fun _ _ _ h => h) (Or.inl ⟨by rfl, ?_⟩) ?_ ?_
    rotate_left
    · intro w'
      go_simp
      with_reducible rfl
    rotate_left
    · simp only [Act.put, List.setIfInBounds_toArray, List.set_cons_zero, List.set_cons_succ, i64_w, i32_w]
      rfl
    refine pure_ (i := 6) (N := some 45) (v := ?_) (a' := ?_) #[true, true, true, true, false, true, true, false, false, false, false, false, false, false, false, false, false, false] rfl rfl (any_of HT_.out (by kernel_rfl)) (fun _ _ _ h => h) (Or.inl ⟨by rfl, ?_⟩) ?_ ?_
    rotate_left
    · intro w'
      go_simp
      with_reducible rfl
    rotate_left
    · simp only [Act.put, List.setIfInBounds_toArray, List.set_cons_zero, List.set_cons_succ, i64_w, i32_w]
      rfl
    refine pure_ (i := 7) (N := some 46) (v := ?_) (a' := ?_) #[true, true, true, true, false, true, true, true, false, false, false, false, false, false, false, false, false, false] rfl rfl (any_of HT_.out (by kernel_rfl)) (fun _ _ _ h => h) (Or.inl ⟨by rfl, ?_⟩) ?_ ?_
    rotate_left
    · intro w'
      go_simp
      with_reducible rfl
    rotate_left
    · simp only [Act.put, List.setIfInBounds_toArray, List.set_cons_zero, List.set_cons_succ, i64_w, i32_w]
      rfl
    refine pure_ (i := 9) (N := some 48) (v := ?_) (a' := ?_) #[true, true, true, true, false, true, true, true, false, true, false, false, false, false, false, false, false, false] rfl rfl (any_of HT_.out (by kernel_rfl)) (fun _ _ _ h => h) (Or.inl ⟨by rfl, ?_⟩) ?_ ?_
    rotate_left
    · intro w'
      go_simp
      with_reducible rfl
    rotate_left
    · simp only [Act.put, List.setIfInBounds_toArray, List.set_cons_zero, List.set_cons_succ, i64_w, i32_w]
      rfl
    refine take_ (i := 4) (N := some 43) (v := ?_) (a' := ?_) #[true, true, true, true, true, true, true, true, false, true, false, false, false, false, false, false, false, false] rfl rfl (take_ofW HT_.out HW_.out (by kernel_rfl)) (fun _ _ _ h => h) (Or.inl ⟨by rfl, ?_⟩) hHeld ?_ ?_
    rotate_left
    · rintro w' ⟨s0, s1, s2⟩
      go_simp
      with_reducible rfl
    rotate_left
    · simp only [Act.put, List.setIfInBounds_toArray, List.set_cons_zero, List.set_cons_succ, i64_w, i32_w]
      rfl
    refine take_ (i := 8) (N := some 47) (v := ?_) (a' := ?_) #[true, true, true, true, true, true, true, true, true, true, false, false, false, false, false, false, false, false] rfl rfl (take_ofW HT_.out HW_.out (by kernel_rfl)) (fun _ _ _ h => h) (Or.inl ⟨by rfl, ?_⟩) hHeld ?_ ?_
    rotate_left
    · rintro w' ⟨s0, s1, s2⟩
      go_simp
      with_reducible rfl
    rotate_left
    · simp only [Act.put, List.setIfInBounds_toArray, List.set_cons_zero, List.set_cons_succ, i64_w, i32_w]
      rfl
    refine pure_ (i := 10) (N := some 49) (v := ?_) (a' := ?_) #[true, true, true, true, true, true, true, true, true, true, true, false, false, false, false, false, false, false] rfl rfl (any_of HT_.out (by kernel_rfl)) (fun _ _ _ h => h) (Or.inl ⟨by rfl, ?_⟩) ?_ ?_
    rotate_left
    · intro w'
      go_simp
      with_reducible rfl
    rotate_left
    · simp only [Act.put, List.setIfInBounds_toArray, List.set_cons_zero, List.set_cons_succ, i64_w, i32_w]
      rfl
    refine last_ (i := 11) (N := some 50) #[true, true, true, true, true, true, true, true, true, true, true, true, false, false, false, false, false, false] rfl rfl (one_of HT_.out (by kernel_rfl)) (by decide) (fun K hK => ?_)
    refine goes_ Tryd.func42 (by kernel_rfl) rfl #[.iface 69 (.pointer (some ⟨rb, 0, none⟩)), .slice (some ⟨gn, 0, none⟩) m m] (by rfl) rfl rfl (by simp only [List.map_toArray, List.map_cons, List.map_nil]; rfl) ?_
    with_reducible refine (HRD.out _ hHeld.1).mono ?_
    rintro e w5 ⟨z, ae, k, rfl, hk, hq⟩
    refine ⟨_, rfl, ?_⟩
    have HS5 : Aside0 (St w0 w5 sc rb A D c (pos + 4 + k) .nilIface (.slice (some ⟨gn, 0, none⟩) 0 m) ds1) := ⟨St_bodyE (HSa.out.same hHeld.1) hq HGS.out.1 HGS.out.2.2⟩
    have HF5 : Aside0 (Far w w5 (fun i => i = sc ∨ i = rb ∨ ∃ ad, X = some ad ∧ i = ad.block)) := ⟨((HFa.out.mono (fun i q => by rcases q with q | q; exact Or.inl q; exact Or.inr (Or.inl q))).trans (Far.of_same hHeld.1 _)).trans2 hq.f (fun i q => by rcases q with q | q; exact Or.inr (by rw [q]; exact HGN.out.2.1); exact Or.inl (Or.inr (Or.inl q)))⟩
    clear hq
    have hc1_ := (St_cells HS5.out).2.1
    have hz1_ := (St_cells HS5.out).2.2.2.1
    refine hK.out _ _ ?_
    clear hK K
    refine norm_ (a' := ?_) ?_ ?_
    rotate_left
    · show Act.put _ (some 50) _ = _
      simp only [Act.put, List.setIfInBounds_toArray, List.set_cons_zero, List.set_cons_succ, i64_w, i32_w]
      rfl
    refine pure_ (i := 12) (N := some 38) (v := ?_) (a' := ?_) #[true, true, true, true, true, true, true, true, true, true, true, true, true, false, false, false, false, false] rfl rfl (any_of HT_.out (by kernel_rfl)) (fun _ _ _ h => h) (Or.inl ⟨by rfl, ?_⟩) ?_ ?_
    rotate_left
    · intro w'
      go_simp
      with_reducible rfl
    rotate_left
    · simp only [Act.put, List.setIfInBounds_toArray, List.set_cons_zero, List.set_cons_succ, i64_w, i32_w]
      rfl
    refine pure_ (i := 13) (N := some 51) (v := ?_) (a' := ?_) #[true, true, true, true, true, true, true, true, true, true, true, true, true, true, false, false, false, false] rfl rfl (any_of HT_.out (by kernel_rfl)) (fun _ _ _ h => h) (Or.inl ⟨by rfl, ?_⟩) ?_ ?_
    rotate_left
    · intro w'
      go_simp
      with_reducible rfl
    rotate_left
    · simp only [Act.put, List.setIfInBounds_toArray, List.set_cons_zero, List.set_cons_succ, i64_w, i32_w]
      rfl
    refine pure_ (i := 14) (N := some 52) (v := ?_) (a' := ?_) #[true, true, true, true, true, true, true, true, true, true, true, true, true, true, true, false, false, false] rfl rfl (any_of HT_.out (by kernel_rfl)) (fun _ _ _ h => h) (Or.inl ⟨by rfl, ?_⟩) ?_ ?_
    rotate_left
    · intro w'
      go_simp
      with_reducible rfl
    rotate_left
    · simp only [Act.put, List.setIfInBounds_toArray, List.set_cons_zero, List.set_cons_succ, i64_w, i32_w]
      rfl
    refine pure_ (i := 15) (N := some 53) (v := ?_) (a' := ?_) #[true, true, true, true, true, true, true, true, true, true, true, true, true, true, true, true, false, false] rfl rfl (any_of HT_.out (by kernel_rfl)) (fun _ _ _ h => h) (Or.inl ⟨by rfl, ?_⟩) ?_ ?_
    rotate_left
    · intro w'
      go_simp
      with_reducible rfl
    rotate_left
    · simp only [Act.put, List.setIfInBounds_toArray, List.set_cons_zero, List.set_cons_succ, i64_w, i32_w]
      rfl
    refine pure_ (i := 16) (N := some 54) (v := ?_) (a' := ?_) #[true, true, true, true, true, true, true, true, true, true, true, true, true, true, true, true, true, false] rfl rfl (any_of HT_.out (by kernel_rfl)) (fun _ _ _ h => h) (Or.inl ⟨by rfl, ?_⟩) ?_ ?_
    rotate_left
    · intro w'
      go_simp
      with_reducible rfl
    rotate_left
    · simp only [Act.put, List.setIfInBounds_toArray, List.set_cons_zero, List.set_cons_succ, i64_w, i32_w]
      rfl
    refine last_ (i := 17) (N := none) #[true, true, true, true, true, true, true, true, true, true, true, true, true, true, true, true, true, true] rfl rfl (one_of HT_.out (by kernel_rfl)) (by decide) (fun K hK => ?_)
    refine skip_ (w1 := ?_) (by rfl) rfl ?_ ?_
    rotate_left
    · go_simp
      rfl
    refine hK.out _ _ ?_
    clear hK K
    refine done_ (done_of HT_.out (by kernel_rfl)) ?_
    clear hHeld hc1_ hz1_
    have HS6 := Aside0.mk (St_err HS5.out (.iface 126 (.pointer (some ae))))
    have HF6 : Aside0 (Far w (w5.setCell ⟨sc, 1, none⟩ (.iface 126 (.pointer (some ae)))) (fun i => i = sc ∨ i = rb ∨ ∃ ad, X = some ad ∧ i = ad.block)) := ⟨HF5.out.set (Or.inl rfl) _⟩
    generalize w5.setCell ⟨sc, 1, none⟩ (.iface 126 (.pointer (some ae))) = w6 at HS6 HF6 ⊢
    have hc1_ := (St_cells HS6.out).2.1
    go_wp2
    go_ret
    exact ⟨rfl, ae, _, _, ds1, HS6.out, HF6.out⟩
  · show _
    obtain ⟨ad, hX⟩ : ∃ ad, X = some ad := by
      rcases X with _ | ad
      · have := HP.out.z rfl
        omega
      · exact ⟨ad, rfl⟩
    obtain ⟨g, cur, e1, hblk, hsz, hgB, hgs, hgr⟩ := HP3.out.s ad hX
    subst e1
    subst hX
    have HGS : Aside0 (g ≠ sc ∧ g ≠ rb ∧ w0.heap.size ≤ g) := ⟨hgs, hgr, hgB⟩
    have HBL := Aside0.mk hblk
    clear hblk hgB hgs hgr
    have hcp0 : decide ((cb : Int) < (m : Int)) = false := decide_eq_false (by omega)
    have hcp1 : decide (cb < m) = false := decide_eq_false (by omega)
    have hc1_ := (St_cells HS3.out).2.1
    have hc2_ := (St_cells HS3.out).2.2.1
    go_upto_region 10 with fail
    clear hc1_ hc2_ hcp0 hcp1
    have HSa := HS3
    have HC0 := Aside0.mk (St_cells HSa.out).1
    have HC2 := Aside0.mk (St_cells HSa.out).2.2.1
    have HRD : Aside0 (∀ W, Same we W → Calls Tryd.prog 42 #[.iface 69 (.pointer (some ⟨rb, 0, none⟩)), .slice (some ⟨g, 0, none⟩) m cb] W fun e w' => ∃ (z : Int) (a : Addr) (k : Nat), e = .returned (.tuple #[.int .i64 z, .iface 126 (.pointer (some a))]) ∧ k ≤ D.length - (pos + 4) ∧ RdE W w' rb g A D c (pos + 4) k) := ⟨fun W hW => by
      obtain ⟨pr, hr⟩ := HSa.out.r
      have hsb := HSa.out.b
      have hg2 := glob_lt HS0.out
      have hbr := HSa.out.br
      have hgb := HGS.out.2.2
      have hpo := HPOS.out
      have hsw := (HS0.out.below (hsb.trans (hW.below _)))
      by_cases he : pos + 4 = D.length
      · exact (fullEnd rb g 0 m cb A c D (pos + 4) pr (cur).toList 5 aE W (hW.blk hr) (hW.blk (HBL.out)) (HGS.out.2.1.symm) (by rw [Array.length_toList]; omega) (by omega) (HD.out.r W (hsb.trans (hW.below _))) HD.out.c hsw.e (by omega) he).mono (fun e w' q => ⟨0, aE, 0, q.1, Nat.zero_le _, ⟨Far.of_same q.2 _, ⟨pr, q.2.blk (hW.blk hr)⟩⟩⟩)
      · exact (fullPart rb g 0 m cb A c D (pos + 4) pr (cur).toList 5 aE W (hW.blk hr) (hW.blk (HBL.out)) (HGS.out.2.1.symm) (by rw [Array.length_toList]; omega) (by omega) (HD.out.r W (hsb.trans (hW.below _))) HD.out.c hsw.e (by omega) (D.length - (pos + 4)) aU (by omega) (by omega) (by omega) hsw.u (by omega) (by omega) (by omega) (by omega)).mono (fun e w' q => ⟨_, aU, _, q.1, Nat.le_refl _, ⟨q.2.f, q.2.r⟩⟩)⟩
    have hcutP := toA (some ⟨g, 0, none⟩) n cb m (by omega)
    refine start_ (n := 18) (S := fun w' => Same we w' ∧ w'.cell? ⟨sc, 0, none⟩ = some (.iface 69 (.pointer (some ⟨rb, 0, none⟩))) ∧ w'.cell? ⟨sc, 2, none⟩ = some (.slice (some ⟨g, 0, none⟩) n cb)) (ds := [11, 17]) #[false, false, false, false, false, false, false, false, false, false, false, false, false, false, false, false, false, false] (by kernel_rfl) rfl rfl ⟨(Same.drew _), (Same.cell (Same.drew _) HC0.out), (Same.cell (Same.drew _) HC2.out)⟩ (fun hHeld => ?_)
    refine with_tabW scan10.tab10 scan10.bits10 (fun HT_ HW_ => ?_)
    generalize World.drew _ = wi at hHeld ⊢
    refine pure_ (i := 0) (N := some 39) (v := ?_) (a' := ?_) #[true, false, false, false, false, false, false, false, false, false, false, false, false, false, false, false, false, false] rfl rfl (any_of HT_.out (by kernel_rfl)) (fun _ _ _ h => h) (Or.inl ⟨by rfl, ?_⟩) ?_ ?_
    rotate_left
    · intro w'
      go_simp
      with_reducible rfl
    rotate_left
    · simp only [Act.put, List.setIfInBounds_toArray, List.set_cons_zero, List.set_cons_succ, i64_w, i32_w]
      rfl
    refine pure_ (i := 1) (N := some 40) (v := ?_) (a' := ?_) #[true, true, false, false, false, false, false, false, false, false, false, false, false, false, false, false, false, false] rfl rfl (any_of HT_.out (by kernel_rfl)) (fun _ _ _ h => h) (Or.inl ⟨by rfl, ?_⟩) ?_ ?_
    rotate_left
    · intro w'
      go_simp
      with_reducible rfl
    rotate_left
    · simp only [Act.put, List.setIfInBounds_toArray, List.set_cons_zero, List.set_cons_succ, i64_w, i32_w]
      rfl
    refine pure_ (i := 2) (N := some 41) (v := ?_) (a' := ?_) #[true, true, true, false, false, false, false, false, false, false, false, false, false, false, false, false, false, false] rfl rfl (any_of HT_.out (by kernel_rfl)) (fun _ _ _ h => h) (Or.inl ⟨by rfl, ?_⟩) ?_ ?_
    rotate_left
    · intro w'
      go_simp
      with_reducible rfl
    rotate_left
    · simp only [Act.put, List.setIfInBounds_toArray, List.set_cons_zero, List.set_cons_succ, i64_w, i32_w]
      rfl
    refine pure_ (i := 3) (N := some 42) (v := ?_) (a' := ?_) #[true, true, true, true, false, false, false, false, false, false, false, false, false, false, false, false, false, false] rfl rfl (any_of HT_.out (by kernel_rfl)) (fun _ _ _ h => h) (Or.inl ⟨by rfl, ?_⟩) ?_ ?_
    rotate_left
    · intro w'
      go_simp
      with_reducible rfl
    rotate_left
    · simp only [Act.put, List.setIfInBounds_toArray, List.set_cons_zero, List.set_cons_succ, i64_w, i32_w]
      rfl
    refine pure_ (i := 5) (N := some 44) (v := ?_) (a' := ?_) #[true, true, true, true, false, true, false, false, false, false, false, false, false, false, false, false, false, false] rfl rfl (any_of HT_.out (by kernel_rfl)) (fun _ _ _ h => h) (Or.inl ⟨by rfl, ?_⟩) ?_ ?_
    rotate_left
    · intro w'
      go_simp
      with_reducible rfl
    rotate_left
    · simp only [Act.put, List.setIfInBounds_toArray, List.set_cons_zero, List.set_cons_succ, i64_w, i32_w]
      rfl
    refine pure_ (i := 6) (N := some 45) (v := ?_) (a' := ?_) #[true, true, true, true, false, true, true, false, false, false, false, false, false, false, false, false, false, false] rfl rfl (any_of HT_.out (by kernel_rfl)) (fun _ _ _ h => h) (Or.inl ⟨by rfl, ?_⟩) ?_ ?_
    rotate_left
    · intro w'
      go_simp
      with_reducible rfl
    rotate_left
    · simp only [Act.put, List.setIfInBounds_toArray, List.set_cons_zero, List.set_cons_succ, i64_w, i32_w]
      rfl
    refine pure_ (i := 7) (N := some 46) (v := ?_) (a' := ?_) #[true, true, true, true, false, true, true, true, false, false, false, false, false, false, false, false, false, false] rfl rfl (any_of HT_.out (by kernel_rfl)) (fun _ _ _ h => h) (Or.inl ⟨by rfl, ?_⟩) ?_ ?_
    rotate_left
    · intro w'
      go_simp
      with_reducible rfl
    rotate_left
    · simp only [Act.put, List.setIfInBounds_toArray, List.set_cons_zero, List.set_cons_succ, i64_w, i32_w]
      rfl
    refine pure_ (i := 9) (N := some 48) (v := ?_) (a' := ?_) #[true, true, true, true, false, true, true, true, false, true, false, false, false, false, false, false, false, false] rfl rfl (any_of HT_.out (by kernel_rfl)) (fun _ _ _ h => h) (Or.inl ⟨by rfl, ?_⟩) ?_ ?_
    rotate_left
    · intro w'
      go_simp
      with_reducible rfl
    rotate_left
    · simp only [Act.put, List.setIfInBounds_toArray, List.set_cons_zero, List.set_cons_succ, i64_w, i32_w]
      rfl
    refine take_ (i := 4) (N := some 43) (v := ?_) (a' := ?_) #[true, true, true, true, true, true, true, true, false, true, false, false, false, false, false, false, false, false] rfl rfl (take_ofW HT_.out HW_.out (by kernel_rfl)) (fun _ _ _ h => h) (Or.inl ⟨by rfl, ?_⟩) hHeld ?_ ?_
    rotate_left
    · rintro w' ⟨s0, s1, s2⟩
      go_simp
      with_reducible rfl
    rotate_left
    · simp only [Act.put, List.setIfInBounds_toArray, List.set_cons_zero, List.set_cons_succ, i64_w, i32_w]
      rfl
    refine take_ (i := 8) (N := some 47) (v := ?_) (a' := ?_) #[true, true, true, true, true, true, true, true, true, true, false, false, false, false, false, false, false, false] rfl rfl (take_ofW HT_.out HW_.out (by kernel_rfl)) (fun _ _ _ h => h) (Or.inl ⟨by rfl, ?_⟩) hHeld ?_ ?_
    rotate_left
    · rintro w' ⟨s0, s1, s2⟩
      go_simp
      with_reducible rfl
    rotate_left
    · simp only [Act.put, List.setIfInBounds_toArray, List.set_cons_zero, List.set_cons_succ, i64_w, i32_w]
      rfl
    refine pure_ (i := 10) (N := some 49) (v := ?_) (a' := ?_) #[true, true, true, true, true, true, true, true, true, true, true, false, false, false, false, false, false, false] rfl rfl (any_of HT_.out (by kernel_rfl)) (fun _ _ _ h => h) (Or.inl ⟨by rfl, ?_⟩) ?_ ?_
    rotate_left
    · intro w'
      go_simp
      with_reducible rfl
    rotate_left
    · simp only [Act.put, List.setIfInBounds_toArray, List.set_cons_zero, List.set_cons_succ, i64_w, i32_w]
      rfl
    refine last_ (i := 11) (N := some 50) #[true, true, true, true, true, true, true, true, true, true, true, true, false, false, false, false, false, false] rfl rfl (one_of HT_.out (by kernel_rfl)) (by decide) (fun K hK => ?_)
    refine goes_ Tryd.func42 (by kernel_rfl) rfl #[.iface 69 (.pointer (some ⟨rb, 0, none⟩)), .slice (some ⟨g, 0, none⟩) m cb] (by rfl) rfl rfl (by simp only [List.map_toArray, List.map_cons, List.map_nil]; rfl) ?_
    with_reducible refine (HRD.out _ hHeld.1).mono ?_
    rintro e w5 ⟨z, ae, k, rfl, hk, hq⟩
    refine ⟨_, rfl, ?_⟩
    have HS5 : Aside0 (St w0 w5 sc rb A D c (pos + 4 + k) .nilIface (.slice (some ⟨g, 0, none⟩) n cb) ds1) := ⟨St_bodyE (HSa.out.same hHeld.1) hq HGS.out.1 HGS.out.2.2⟩
    have HF5 : Aside0 (Far w w5 (fun i => i = sc ∨ i = rb ∨ ∃ ad, some (⟨g, 0, none⟩ : Addr) = some ad ∧ i = ad.block)) := ⟨((HF4.out.mono (fun i q => by rcases q with q | q; exact Or.inl q; exact Or.inr (Or.inl q))).trans (Far.of_same hHeld.1 _)).trans (hq.f.mono (fun i q => by rcases q with q | q; exact Or.inr (Or.inr ⟨_, rfl, q⟩); exact Or.inr (Or.inl q)))⟩
    clear hq
    have hc1_ := (St_cells HS5.out).2.1
    have hz1_ := (St_cells HS5.out).2.2.2.1
    refine hK.out _ _ ?_
    clear hK K
    refine norm_ (a' := ?_) ?_ ?_
    rotate_left
    · show Act.put _ (some 50) _ = _
      simp only [Act.put, List.setIfInBounds_toArray, List.set_cons_zero, List.set_cons_succ, i64_w, i32_w]
      rfl
    refine pure_ (i := 12) (N := some 38) (v := ?_) (a' := ?_) #[true, true, true, true, true, true, true, true, true, true, true, true, true, false, false, false, false, false] rfl rfl (any_of HT_.out (by kernel_rfl)) (fun _ _ _ h => h) (Or.inl ⟨by rfl, ?_⟩) ?_ ?_
    rotate_left
    · intro w'
      go_simp
      with_reducible rfl
    rotate_left
    · simp only [Act.put, List.setIfInBounds_toArray, List.set_cons_zero, List.set_cons_succ, i64_w, i32_w]
      rfl
    refine pure_ (i := 13) (N := some 51) (v := ?_) (a' := ?_) #[true, true, true, true, true, true, true, true, true, true, true, true, true, true, false, false, false, false] rfl rfl (any_of HT_.out (by kernel_rfl)) (fun _ _ _ h => h) (Or.inl ⟨by rfl, ?_⟩) ?_ ?_
    rotate_left
    · intro w'
      go_simp
      with_reducible rfl
    rotate_left
    · simp only [Act.put, List.setIfInBounds_toArray, List.set_cons_zero, List.set_cons_succ, i64_w, i32_w]
      rfl
    refine pure_ (i := 14) (N := some 52) (v := ?_) (a' := ?_) #[true, true, true, true, true, true, true, true, true, true, true, true, true, true, true, false, false, false] rfl rfl (any_of HT_.out (by kernel_rfl)) (fun _ _ _ h => h) (Or.inl ⟨by rfl, ?_⟩) ?_ ?_
    rotate_left
    · intro w'
      go_simp
      with_reducible rfl
    rotate_left
    · simp only [Act.put, List.setIfInBounds_toArray, List.set_cons_zero, List.set_cons_succ, i64_w, i32_w]
      rfl
    refine pure_ (i := 15) (N := some 53) (v := ?_) (a' := ?_) #[true, true, true, true, true, true, true, true, true, true, true, true, true, true, true, true, false, false] rfl rfl (any_of HT_.out (by kernel_rfl)) (fun _ _ _ h => h) (Or.inl ⟨by rfl, ?_⟩) ?_ ?_
    rotate_left
    · intro w'
      go_simp
      with_reducible rfl
    rotate_left
    · simp only [Act.put, List.setIfInBounds_toArray, List.set_cons_zero, List.set_cons_succ, i64_w, i32_w]
      rfl
    refine pure_ (i := 16) (N := some 54) (v := ?_) (a' := ?_) #[true, true, true, true, true, true, true, true, true, true, true, true, true, true, true, true, true, false] rfl rfl (any_of HT_.out (by kernel_rfl)) (fun _ _ _ h => h) (Or.inl ⟨by rfl, ?_⟩) ?_ ?_
    rotate_left
    · intro w'
      go_simp
      with_reducible rfl
    rotate_left
    · simp only [Act.put, List.setIfInBounds_toArray, List.set_cons_zero, List.set_cons_succ, i64_w, i32_w]
      rfl
    refine last_ (i := 17) (N := none) #[true, true, true, true, true, true, true, true, true, true, true, true, true, true, true, true, true, true] rfl rfl (one_of HT_.out (by kernel_rfl)) (by decide) (fun K hK => ?_)
    refine skip_ (w1 := ?_) (by rfl) rfl ?_ ?_
    rotate_left
    · go_simp
      rfl
    refine hK.out _ _ ?_
    clear hK K
    refine done_ (done_of HT_.out (by kernel_rfl)) ?_
    clear hHeld hc1_ hz1_
    have HS6 := Aside0.mk (St_err HS5.out (.iface 126 (.pointer (some ae))))
    have HF6 : Aside0 (Far w (w5.setCell ⟨sc, 1, none⟩ (.iface 126 (.pointer (some ae)))) (fun i => i = sc ∨ i = rb ∨ ∃ ad, some (⟨g, 0, none⟩ : Addr) = some ad ∧ i = ad.block)) := ⟨HF5.out.set (Or.inl rfl) _⟩
    generalize w5.setCell ⟨sc, 1, none⟩ (.iface 126 (.pointer (some ae))) = w6 at HS6 HF6 ⊢
    have hc1_ := (St_cells HS6.out).2.1
    go_wp2
    go_ret
    exact ⟨rfl, ae, _, _, ds1, HS6.out, HF6.out⟩
#print axioms scanCut

end Go.Proofs.YtponeoodgfgejaaDoor.HandH

set_option linter.unusedVariables false
set_option linter.unusedSimpArgs false
namespace Go.Proofs.YtponeoodgfgejaaDoor.HandI
open Go.RowKit Go.Proofs.YtponeoodgfgejaaDoorW.PrintWords Go.Proofs.YtponeoodgfgejaaDoorW.PrintLast Go.Proofs.YtponeoodgfgejaaDoorW.PrintMore Go.Proofs.YtponeoodgfgejaaDoor.QAll Txt PureA HandA HandB HandC HandD HandE HandF HandG HandH

set_option maxHeartbeats 4000000 in
set_option maxRecDepth 100000 in
theorem newReader (A : Option Addr) (n c : Nat) (w : World) : Calls Tryd.prog 26 #[.slice A n c] w fun e w' => e = .returned (.pointer (some ⟨w.heap.size, 0, none⟩)) ∧ w'.heap[w.heap.size]? = some (.cells #[.slice A n c, .int .i64 0, .int .i64 (-1)] 90 (0, 0)) ∧ Below w.heap.size w w' := by
  go_enter Tryd.func26, Tryd.ntmps26
  go_wp2
  go_ret
  exact ⟨rfl, blk_new _ _, below_alloc (Below.refl _ _) _⟩
set_option maxHeartbeats 4000000 in
set_option maxRecDepth 100000 in
theorem newScanner (rb : Nat) (w : World) : Calls Tryd.prog 29 #[.iface 69 (.pointer (some ⟨rb, 0, none⟩))] w fun e w' => e = .returned (.pointer (some ⟨w.heap.size, 0, none⟩)) ∧ w'.heap[w.heap.size]? = some (.cells (scC rb .nilIface (.slice none 0 0) [.int .u8 0, .int .u8 0, .int .u8 0, .int .u8 0]).toArray 96 (0, 0)) ∧ Below w.heap.size w w' := by
  go_enter Tryd.func29, Tryd.ntmps29
  go_wp2
  go_ret
  exact ⟨rfl, blk_new _ _, below_alloc (Below.refl _ _) _⟩
set_option maxHeartbeats 4000000 in
set_option maxRecDepth 100000 in
theorem bytesOf_ (sc : Nat) (v : Value) (w : World) (h : w.cell? ⟨sc, 2, none⟩ = some v) : Calls Tryd.prog 31 #[.pointer (some ⟨sc, 0, none⟩)] w fun e w' => e = .returned v ∧ w' = w := by
  go_enter Tryd.func31, Tryd.ntmps31
  go_wp2
  go_ret
  exact ⟨rfl, rfl⟩
set_option maxHeartbeats 4000000 in
set_option maxRecDepth 100000 in
theorem errOf (sc : Nat) (v : Value) (w : World) (h : w.cell? ⟨sc, 1, none⟩ = some v) : Calls Tryd.prog 32 #[.pointer (some ⟨sc, 0, none⟩)] w fun e w' => e = .returned v ∧ w' = w := by
  go_enter Tryd.func32, Tryd.ntmps32
  go_wp2
  go_ret
  exact ⟨rfl, rfl⟩
#print axioms newReader
#print axioms newScanner
#print axioms bytesOf_
#print axioms errOf
end Go.Proofs.YtponeoodgfgejaaDoor.HandI
