/- object.Tree.Encode. -/
import Derived.Test.YtddnepddilbikaaDoorObjE
import Derived.Test.YtddnepddilbikaaDoorObjM
import Derived.Test.YtddnepddilbikaaDoorObjN
import Derived.Test.YtddnepddilbikaaDoorQAllx11
set_option linter.unusedVariables false
set_option linter.unusedSimpArgs false
namespace Go.Proofs.YtddnepddilbikaaDoor.ObjO
open Go.RowKit Go.Proofs.YtddnepddilbikaaDoorW.PrintLast Go.Proofs.YtddnepddilbikaaDoorW.PrintMore Go.Proofs.YtddnepddilbikaaDoor.QAll Ptr SrtL ObjA ObjB ObjC ObjD ObjE ObjL ObjM ObjN ExtO
open Go.Proofs.YtddnepddilbikaaDoorW.PrintWords hiding nums

/-- The walk's state. -/
structure Te (w0 W : World) (o E g gb : Nat) (tcs : Array Value) (l : List S44) (out : List Int) : Prop where
  mo : Mo w0 W o 2 out
  e : W.heap[E]? = some (.cells #[.nilIface] 63 (0, 0))
  t : W.heap[g]? = some (.cells tcs 56 (0, 0))
  r : Rw W gb l
section
variable {w0 W : World} {o E g gb : Nat} {tcs : Array Value} {l : List S44} {out : List Int}
theorem Rw.kp {W W' : World} {o gb : Nat} {l : List S44} (h : Rw W gb l) (hk : Kp o W W') (hgb : 0 < l.length → gb ≠ o) : Rw W' gb l := by
  refine ⟨fun z => ?_, fun k hk2 j v hj => ?_⟩
  · obtain ⟨C, hC⟩ := h.blk z
    exact ⟨C, hk.2 gb _ _ (hgb z) (by decide) hC⟩
  · obtain ⟨C, hC⟩ := h.blk (by omega)
    have h1 := h.at_ k hk2 j v hj
    rw [Lib.cell_of_heap hC] at h1
    rw [Lib.cell_of_heap (hk.2 gb _ _ (hgb (by omega)) (by decide) hC)]
    exact h1
theorem Te.below {W' : World} (h : Te w0 W o E g gb tcs l (out)) (hb : Below W.heap.size W W') : Te w0 W' o E g gb tcs l (out) :=
  ⟨h.mo.below hb, (hb.block E (blk_lt h.e)).trans h.e, (hb.block g (blk_lt h.t)).trans h.t, h.r.below hb⟩
theorem Te.kp {W' : World} {out' : List Int} (h : Te w0 W o E g gb tcs l (out)) (hm : Mo w0 W' o 2 out') (hk : Kp o W W') (hE : E ≠ o) (hg : g ≠ o) (hgb : 0 < l.length → gb ≠ o) : Te w0 W' o E g gb tcs l out' :=
  ⟨hm, hk.2 E _ _ hE (by decide) h.e, hk.2 g _ _ hg (by decide) h.t, Rw.kp h.r hk hgb⟩
theorem Te.res (h : Te w0 W o E g gb tcs l (out)) : W.cell? ⟨E, 0, none⟩ = some .nilIface ∧ W.frozen? ⟨E, 0, none⟩ = false ∧ W.setCell ⟨E, 0, none⟩ .nilIface = W :=
  ⟨(Lib.cell_of_heap h.e 0).trans rfl, Lib.frozen_of_heap h.e 0, setCell_same h.e⟩
theorem Te.put (h : Te w0 W o E g gb tcs l (out)) (hE : E ≠ o) (hg : g ≠ o) (hgb : 0 < l.length → gb ≠ o) (s : ByteArray) (hl : out.length + s.size ≤ 1000000000) :
    Calls Tryd.prog 48 #[.iface 57 (.pointer (some ⟨o, 0, none⟩)), .string s] W fun e w' => ∃ n, e = .returned (.tuple #[.int .i64 n, .nilIface]) ∧ Te w0 w' o E g gb tcs l (out ++ nums s) ∧ Kp o W w' :=
  (writeString h.mo s hl).mono (by
    rintro e w' ⟨rfl, k1, k2⟩
    exact ⟨_, rfl, h.kp k1 k2 hE hg hgb, k2⟩)
theorem Te.putB (h : Te w0 W o E g gb tcs l (out)) (hE : E ≠ o) (hg : g ≠ o) (hgb : 0 < l.length → gb ≠ o) (p : List Int) (A : Option Addr) (n c : Nat) (hn : n = p.length) (hC : Kd.C (Kd.int .u8) W A n p) (hl : out.length + p.length ≤ 1000000000) :
    Calls Tryd.prog 130 #[.pointer (some ⟨o, 0, none⟩), .slice A n c] W fun e w' => ∃ n, e = .returned (.tuple #[.int .i64 n, .nilIface]) ∧ Te w0 w' o E g gb tcs l (out ++ p) ∧ Kp o W w' :=
  (write h.mo p A n c hn hC hl).mono (by
    rintro e w' ⟨rfl, k1, k2⟩
    exact ⟨_, rfl, h.kp k1 k2 hE hg hgb, k2⟩)
end
theorem nilAhead57 (n g : Nat) (W : World) : (nilAhead (n + 1) 57 (.pointer (some ⟨g, 0, none⟩)) "Write").run Tryd.prog W = .ok (some false) W := by
  have h : (Tryd.prog.info? 57).map (fun i => (i.methods.find? (fun m => m.name == "Write")).map (fun m => (m.path, m.func))) = some (some (#[], some (130, true))) := by kernel_rfl
  obtain ⟨i, hi, h1⟩ := Option.map_eq_some_iff.1 h
  obtain ⟨m, hm, h2⟩ := Option.map_eq_some_iff.1 h1
  simp only [Prod.mk.injEq] at h2
  unfold nilAhead
  simp [typeInfo, hi, hm, h2.1, h2.2, followBlind]
/-- The bytes of a hash. -/
def hashN (s : ByteArray) : List Int := (List.range 20).map (hb s)
/-- An entry, as it is written. -/
def entOut (s : S44) : List Int := nums (ob s.f1.toNat ++ (⟨#[32]⟩ : ByteArray) ++ s.f0) ++ [0] ++ hashN s.f2
def entsOut (l : List S44) : List Int := (l.map entOut).flatten
theorem entsOut_snoc (l : List S44) (s : S44) : entsOut (l ++ [s]) = entsOut l ++ entOut s := by
  unfold entsOut
  rw [List.map_append, List.flatten_append]
  simp
/-- An entry that may be written. -/
structure OkE (s : S44) : Prop where
  n : s.f0.size ≤ 4096
  z : strings_IndexByte.f s.f0 0 = some (-1)
  m0 : 0 ≤ s.f1
  m1 : s.f1 ≤ 4294967295
theorem entOut_len (s : S44) (h : OkE s) : (entOut s).length ≤ 4200 := by
  have h1 : (ob s.f1.toNat).size ≤ 11 := ob_small 10 _ (by
    have h8 : (8 : Nat) ^ (10 + 1) = 8589934592 := by decide
    rw [h8]
    have := h.m1
    omega)
  have h2 := h.n
  have l1 : (⟨#[32]⟩ : ByteArray).size = 1 := rfl
  unfold entOut hashN
  simp only [List.length_append, nums_len, ByteArray.size_append, List.length_map, List.length_range, List.length_cons, List.length_nil, l1]
  omega
theorem entsOut_len (l : List S44) (h : ∀ s ∈ l, OkE s) : (entsOut l).length ≤ l.length * 4200 := by
  induction l with
  | nil => exact Nat.zero_le _
  | cons s l ih =>
    have e : entsOut (s :: l) = entOut s ++ entsOut l := by unfold entsOut; simp
    have h1 := entOut_len s (h s (List.mem_cons_self ..))
    have h2 := ih (fun x hx => h x (List.mem_cons_of_mem _ hx))
    rw [e, List.length_append, List.length_cons]
    omega
theorem size22 : (Tryd.prog.info? 95).map (·.size) = some (22 : Nat) := by kernel_rfl
theorem one22 (s : S44) : ∀ v ∈ (#[.string s.f0, .int .u32 s.f1, .int .u8 (hb s.f2 0), .int .u8 (hb s.f2 1), .int .u8 (hb s.f2 2), .int .u8 (hb s.f2 3), .int .u8 (hb s.f2 4), .int .u8 (hb s.f2 5), .int .u8 (hb s.f2 6), .int .u8 (hb s.f2 7), .int .u8 (hb s.f2 8), .int .u8 (hb s.f2 9), .int .u8 (hb s.f2 10), .int .u8 (hb s.f2 11), .int .u8 (hb s.f2 12), .int .u8 (hb s.f2 13), .int .u8 (hb s.f2 14), .int .u8 (hb s.f2 15), .int .u8 (hb s.f2 16), .int .u8 (hb s.f2 17), .int .u8 (hb s.f2 18), .int .u8 (hb s.f2 19)] : Array Value).toList, v.oneCell' = true := kT.K_one (w := default) (show kT.K default s [.string s.f0, .int .u32 s.f1, .int .u8 (hb s.f2 0), .int .u8 (hb s.f2 1), .int .u8 (hb s.f2 2), .int .u8 (hb s.f2 3), .int .u8 (hb s.f2 4), .int .u8 (hb s.f2 5), .int .u8 (hb s.f2 6), .int .u8 (hb s.f2 7), .int .u8 (hb s.f2 8), .int .u8 (hb s.f2 9), .int .u8 (hb s.f2 10), .int .u8 (hb s.f2 11), .int .u8 (hb s.f2 12), .int .u8 (hb s.f2 13), .int .u8 (hb s.f2 14), .int .u8 (hb s.f2 15), .int .u8 (hb s.f2 16), .int .u8 (hb s.f2 17), .int .u8 (hb s.f2 18), .int .u8 (hb s.f2 19)] from rfl)
set_option maxHeartbeats 16000000 in
set_option maxRecDepth 100000 in
theorem treeEncode {w0 W : World} {o g gb : Nat} {tcs : Array Value} {l : List S44} {A : Option Addr} {c : Nat} (h : Mo w0 W o 0 []) (ht : W.heap[g]? = some (.cells tcs 56 (0, 0))) (htc : tcs[0]? = some (.slice A l.length c)) (hgo : g ≠ o) (hr : Rw W gb l) (hgb : 0 < l.length → gb ≠ o) (hA : 0 < l.length → A = some ⟨gb, 0, none⟩)
    (hn1 : l.length ≤ 1000) (hok : ∀ s ∈ l, OkE s) (hs : Sorted l) (hc3 : ∀ W1, Below w0.heap.size w0 W1 → W1.cell? ⟨6, 7, none⟩ = some (.int .u8 3)) :
    Calls Tryd.prog 23 #[.pointer (some ⟨g, 0, none⟩), .iface 57 (.pointer (some ⟨o, 0, none⟩))] W fun e w' => e = .returned .nilIface ∧ Mo w0 w' o 2 ([] ++ entsOut l) := by
  generalize hE : W.heap.size = E
  have hoE : E ≠ o := by have := h.lt; omega
  have hB0 := Below.alloc (Below.refl W.heap.size W) (Nat.le_refl _) (.cells #[.nilIface] 63 (0, 0))
  have hTA0 : ∀ W', Mo w0 W' o 2 [] → Kp o (W.alloc (.cells #[.nilIface] 63 (0, 0))) W' → Te w0 W' o E g gb tcs l ([]) := fun W' hm hk =>
    ⟨hm, hk.2 E _ _ hoE (by decide) (by rw [← hE]; exact blk_new W _), hk.2 g _ _ hgo (by decide) ((Below.heap_alloc W _ g (blk_lt ht)).trans ht), Rw.kp (hr.below hB0) hk hgb⟩
  have PSE : Aside0 (Calls Tryd.prog 129 #[.pointer (some ⟨o, 0, none⟩), .int .i8 2] (W.alloc (.cells #[.nilIface] 63 (0, 0))) fun e w' => e = .returned (.tuple #[]) ∧ Te w0 w' o E g gb tcs l ([])) :=
    ⟨(setType (h.below hB0) 2).mono (by
      rintro e w' ⟨rfl, k1, k2⟩
      exact ⟨rfl, hTA0 w' k1 k2⟩)⟩
  have PW : Aside0 (∀ W1, Te w0 W1 o E g gb tcs l ([]) → Calls Tryd.prog 131 #[.pointer (some ⟨o, 0, none⟩)] W1 fun e w' => e = .returned (.tuple #[.iface 57 (.pointer (some ⟨o, 0, none⟩)), .nilIface]) ∧ w' = W1) :=
    ⟨fun W1 h => writer o W1⟩
  have PIS : Aside0 (∀ W1, Te w0 W1 o E g gb tcs l ([]) → Calls Tryd.prog 45 #[.iface 104 (.slice A l.length c)] W1 fun e w' => e = .returned (.bool true) ∧ Te w0 w' o E g gb tcs l ([])) :=
    ⟨fun W1 h => (isSorted h.r c hA hn1 (fun s hs => (hok s hs).n) hs).mono (by
      rintro e w' ⟨rfl, k⟩
      exact ⟨rfl, h.below k⟩)⟩
  have HOK := Aside0.mk hok
  have HN1 := Aside0.mk hn1
  have HAA := Aside0.mk hA
  have HTC := Aside0.mk htc
  have HC3 := Aside0.mk hc3
  have HGE := Aside0.mk (And.intro hoE (And.intro hgo hgb))
  obtain ⟨np, hnp⟩ : ∃ np, np = l.length := ⟨_, rfl⟩
  rw [← hnp] at PIS HTC
  have HNP := Aside0.mk hnp
  have hmw := fun g W => mSetType 328/-FUEL-/ g W
  have hmv := fun g W => mWriter 328/-FUEL-/ g W
  have hmr := fun g W => mWrite 328/-FUEL-/ g W
  have hna := fun g W => nilAhead57 328/-FUEL-/ g W
  clear h ht htc hgo hr hgb hA hn1 hok hs hc3 hB0 hTA0 hoE hnp
  go_enter_defers Tryd.func23, Tryd.ntmps23
  go_upto_region 9 with (first
    | (go_at_call 129
       (with_reducible refine PSE.out.mono ?_)
       rintro x wa ⟨rfl, k⟩
       have T0 := Aside0.mk k
       have c0 : wa.cell? ⟨g, 0, none⟩ = some (.slice A np c) := (Lib.cell_of_heap k.t 0).trans HTC.out
       obtain ⟨e0, e1, e2⟩ := k.res
       clear k)
    | (go_at_call 131
       (with_reducible refine (PW.out _ T0.out).mono ?_)
       rintro x wb ⟨rfl, rfl⟩)
    | (go_at_call 45
       (with_reducible refine (PIS.out _ T0.out).mono ?_)
       rintro x wc ⟨rfl, k⟩
       have T1 := Aside0.mk k
       have c0 : wc.cell? ⟨g, 0, none⟩ = some (.slice A np c) := (Lib.cell_of_heap k.t 0).trans HTC.out
       obtain ⟨e0, e1, e2⟩ := k.res
       clear k)
    | fail)
  clear PSE PW PIS T0 hmw hmv c0
  go_loopg [32] np (fun gk v32 w' => ∃ k : Nat, v32 = .int .i64 (k : Int) ∧ Aside0 (k + gk = np) ∧ Aside0 (Te w0 w' o E g gb tcs l ([] ++ entsOut (l.take k))))
  case atStart => exact ⟨0, rfl, ⟨by omega⟩, ⟨by rw [show entsOut (l.take 0) = [] from rfl]; exact T1.out⟩⟩
  case round =>
    obtain ⟨k, rfl, HK, HC⟩ := hrel
    clear T1 e0 e1 e2
    by_cases hlt : k < np
    rotate_left
    · have hke : k = np := by have := HK.out; omega
      have T2 : Aside0 (Te w0 wr o E g gb tcs l ([] ++ entsOut l)) := ⟨by
        have := HC.out
        rwa [hke, HNP.out, List.take_length] at this⟩
      obtain ⟨e0, e1, e2⟩ := T2.out.res
      clear HK HC
      subst hke
      go_wp2
      refine leaves_cons (f := 44) (args := #[.iface 57 (.pointer (some ⟨o, 0, none⟩)), .pointer (some ⟨E, 0, none⟩)]) (by simp) (enters_of Tryd.func44 (by kernel_rfl) rfl _ _) ?_
      refine (checkClose o ⟨E, 0, none⟩ _ _).mono ?_
      rintro e u' wz ⟨rfl, rfl, rfl⟩
      refine ⟨.nilIface, ?_, rfl, T2.out.mo⟩
      rw [results_cell1 (p := 4) (ty := 63) rfl]
      show (Result.ok (⟨E, 0, none⟩ : Addr) _).andThen _ = _
      exact load63 T2.out.res.1
    obtain ⟨m, rfl⟩ : ∃ m, gk = m + 1 := ⟨gk - 1, by have := HK.out; omega⟩
    have hk1 : (k : Int) < (np : Int) := by omega
    have hk2 : (k : Int) < 1001 := by have := HNP.out; have := HN1.out; omega
    have hAe := HAA.out (by have := HNP.out; omega)
    subst hAe
    have hkl : k < l.length := by have := HNP.out; omega
    have hat := HC.out.r.at_ k hkl
    have hgd : l.getD k z44 = l[k] := by rw [List.getD_eq_getElem?_getD, List.getElem?_eq_getElem hkl]; rfl
    rw [hgd] at hat
    have HTK : Aside0 (entsOut (l.take (k + 1)) = entsOut (l.take k) ++ entOut l[k]) := ⟨by rw [List.take_succ_eq_append_getElem hkl, entsOut_snoc]⟩
    have HOS := Aside0.mk (HOK.out l[k] (List.getElem_mem hkl))
    have HLE : Aside0 ((entsOut (l.take k)).length ≤ 4200000) := ⟨by
      have h1 := entsOut_len (l.take k) (fun s hs => HOK.out s (List.mem_of_mem_take hs))
      have h2 := HN1.out
      rw [List.length_take] at h1
      have : min k l.length * 4200 ≤ 1000 * 4200 := Nat.mul_le_mul_right _ (by omega)
      omega⟩
    generalize l[k] = s at hat HTK HOS
    clear hgd hkl
    generalize entsOut (l.take k) = X0 at HC HLE HTK
    have HRG := Aside0.mk hat
    have HNEW : Aside0 ((wr.alloc (.cells #[.string ⟨#[]⟩, .int .u32 0, .int .u8 0, .int .u8 0, .int .u8 0, .int .u8 0, .int .u8 0, .int .u8 0, .int .u8 0, .int .u8 0, .int .u8 0, .int .u8 0, .int .u8 0, .int .u8 0, .int .u8 0, .int .u8 0, .int .u8 0, .int .u8 0, .int .u8 0, .int .u8 0, .int .u8 0, .int .u8 0] 95)).heap[wr.heap.size]? = some (.cells #[.string ⟨#[]⟩, .int .u32 0, .int .u8 0, .int .u8 0, .int .u8 0, .int .u8 0, .int .u8 0, .int .u8 0, .int .u8 0, .int .u8 0, .int .u8 0, .int .u8 0, .int .u8 0, .int .u8 0, .int .u8 0, .int .u8 0, .int .u8 0, .int .u8 0, .int .u8 0, .int .u8 0, .int .u8 0, .int .u8 0] 95 (0, 0))) := ⟨blk_new _ _⟩
    have HWK : Aside0 (wrap64 ((k : Int) + 1) = ((k + 1 : Nat) : Int)) := ⟨by unfold wrap64; omega⟩
    clear hat
    go_upto_region 11 with (first
      | ((with_reducible refine gate_dst (N := 35) rfl ?_); refine wpList_load_mid rfl 95 (.tmp 34) rfl gb (k * 22) ?hx [.string s.f0, .int .u32 s.f1, .int .u8 (hb s.f2 0), .int .u8 (hb s.f2 1), .int .u8 (hb s.f2 2), .int .u8 (hb s.f2 3), .int .u8 (hb s.f2 4), .int .u8 (hb s.f2 5), .int .u8 (hb s.f2 6), .int .u8 (hb s.f2 7), .int .u8 (hb s.f2 8), .int .u8 (hb s.f2 9), .int .u8 (hb s.f2 10), .int .u8 (hb s.f2 11), .int .u8 (hb s.f2 12), .int .u8 (hb s.f2 13), .int .u8 (hb s.f2 14), .int .u8 (hb s.f2 15), .int .u8 (hb s.f2 16), .int .u8 (hb s.f2 17), .int .u8 (hb s.f2 18), .int .u8 (hb s.f2 19)] _ HRG.out Tryd.underlying95 rfl size22 ?_
         case hx => first | rfl | (simp [Act.eval]; done) | (go_simp; done))
      | ((with_reducible refine gate_store (p := 7) rfl ?_); refine wpList_put_row rfl 95 7 (.tmp 35) rfl rfl wr.heap.size 95 #[.string ⟨#[]⟩, .int .u32 0, .int .u8 0, .int .u8 0, .int .u8 0, .int .u8 0, .int .u8 0, .int .u8 0, .int .u8 0, .int .u8 0, .int .u8 0, .int .u8 0, .int .u8 0, .int .u8 0, .int .u8 0, .int .u8 0, .int .u8 0, .int .u8 0, .int .u8 0, .int .u8 0, .int .u8 0, .int .u8 0] #[.string s.f0, .int .u32 s.f1, .int .u8 (hb s.f2 0), .int .u8 (hb s.f2 1), .int .u8 (hb s.f2 2), .int .u8 (hb s.f2 3), .int .u8 (hb s.f2 4), .int .u8 (hb s.f2 5), .int .u8 (hb s.f2 6), .int .u8 (hb s.f2 7), .int .u8 (hb s.f2 8), .int .u8 (hb s.f2 9), .int .u8 (hb s.f2 10), .int .u8 (hb s.f2 11), .int .u8 (hb s.f2 12), .int .u8 (hb s.f2 13), .int .u8 (hb s.f2 14), .int .u8 (hb s.f2 15), .int .u8 (hb s.f2 16), .int .u8 (hb s.f2 17), .int .u8 (hb s.f2 18), .int .u8 (hb s.f2 19)] rfl rfl HNEW.out rfl size22 (one22 s) ?_)
      | fail)
    rw [setRow_new]
    have HRW : Aside0 ((wr.alloc (.cells #[.string s.f0, .int .u32 s.f1, .int .u8 (hb s.f2 0), .int .u8 (hb s.f2 1), .int .u8 (hb s.f2 2), .int .u8 (hb s.f2 3), .int .u8 (hb s.f2 4), .int .u8 (hb s.f2 5), .int .u8 (hb s.f2 6), .int .u8 (hb s.f2 7), .int .u8 (hb s.f2 8), .int .u8 (hb s.f2 9), .int .u8 (hb s.f2 10), .int .u8 (hb s.f2 11), .int .u8 (hb s.f2 12), .int .u8 (hb s.f2 13), .int .u8 (hb s.f2 14), .int .u8 (hb s.f2 15), .int .u8 (hb s.f2 16), .int .u8 (hb s.f2 17), .int .u8 (hb s.f2 18), .int .u8 (hb s.f2 19)] 95)).heap[wr.heap.size]? = some (.cells #[.string s.f0, .int .u32 s.f1, .int .u8 (hb s.f2 0), .int .u8 (hb s.f2 1), .int .u8 (hb s.f2 2), .int .u8 (hb s.f2 3), .int .u8 (hb s.f2 4), .int .u8 (hb s.f2 5), .int .u8 (hb s.f2 6), .int .u8 (hb s.f2 7), .int .u8 (hb s.f2 8), .int .u8 (hb s.f2 9), .int .u8 (hb s.f2 10), .int .u8 (hb s.f2 11), .int .u8 (hb s.f2 12), .int .u8 (hb s.f2 13), .int .u8 (hb s.f2 14), .int .u8 (hb s.f2 15), .int .u8 (hb s.f2 16), .int .u8 (hb s.f2 17), .int .u8 (hb s.f2 18), .int .u8 (hb s.f2 19)] 95 (0, 0))) := ⟨blk_new _ _⟩
    have HC2 : Aside0 (Te w0 (wr.alloc (.cells #[.string s.f0, .int .u32 s.f1, .int .u8 (hb s.f2 0), .int .u8 (hb s.f2 1), .int .u8 (hb s.f2 2), .int .u8 (hb s.f2 3), .int .u8 (hb s.f2 4), .int .u8 (hb s.f2 5), .int .u8 (hb s.f2 6), .int .u8 (hb s.f2 7), .int .u8 (hb s.f2 8), .int .u8 (hb s.f2 9), .int .u8 (hb s.f2 10), .int .u8 (hb s.f2 11), .int .u8 (hb s.f2 12), .int .u8 (hb s.f2 13), .int .u8 (hb s.f2 14), .int .u8 (hb s.f2 15), .int .u8 (hb s.f2 16), .int .u8 (hb s.f2 17), .int .u8 (hb s.f2 18), .int .u8 (hb s.f2 19)] 95)) o E g gb tcs l ([] ++ X0)) := ⟨HC.out.below (below_alloc (Below.refl _ _) _)⟩
    have HGO : Aside0 (wr.heap.size ≠ o) := ⟨by have := HC.out.mo.lt; omega⟩
    generalize wr.alloc (.cells #[.string s.f0, .int .u32 s.f1, .int .u8 (hb s.f2 0), .int .u8 (hb s.f2 1), .int .u8 (hb s.f2 2), .int .u8 (hb s.f2 3), .int .u8 (hb s.f2 4), .int .u8 (hb s.f2 5), .int .u8 (hb s.f2 6), .int .u8 (hb s.f2 7), .int .u8 (hb s.f2 8), .int .u8 (hb s.f2 9), .int .u8 (hb s.f2 10), .int .u8 (hb s.f2 11), .int .u8 (hb s.f2 12), .int .u8 (hb s.f2 13), .int .u8 (hb s.f2 14), .int .u8 (hb s.f2 15), .int .u8 (hb s.f2 16), .int .u8 (hb s.f2 17), .int .u8 (hb s.f2 18), .int .u8 (hb s.f2 19)] 95) = wn at HRW HC2 ⊢
    generalize wr.heap.size = ge at HRW HGO ⊢
    clear HRG HNEW HC
    obtain ⟨mo, hmo⟩ : ∃ mo : Int, mo = s.f1 := ⟨_, rfl⟩
    obtain ⟨ot, hot⟩ : ∃ ot, ot = ob s.f1.toNat := ⟨_, rfl⟩
    have hotl : ot.size ≤ 11 := by
      rw [hot]
      refine ob_small 10 _ ?_
      have h8 : (8 : Nat) ^ (10 + 1) = 8589934592 := by decide
      rw [h8]
      have := HOS.out.m1
      omega
    have hnml := HOS.out.n
    have z1 : ¬ 9223372036854775807 < ot.size + 1 := by omega
    have z2 : ¬ 9223372036854775807 < ot.size + 1 + s.f0.size := by omega
    have hcv : ∀ W, (convert 93 110 (.int .u32 mo)).run Tryd.prog W = .ok (.int .u64 mo) W := fun W => by
      have e : IntKind.u64.wrap mo = mo := by
        have h1 := HOS.out.m0
        have h2 := HOS.out.m1
        rw [IntKind.wrap_u64]
        omega
      go_simp
      first
        | rw [e]
        | (rw [hmo] at e; exact e)
    have PIB : Aside0 (∀ W1, Te w0 W1 o E g gb tcs l ([] ++ X0) → W1.heap[ge]? = some (.cells #[.string s.f0, .int .u32 s.f1, .int .u8 (hb s.f2 0), .int .u8 (hb s.f2 1), .int .u8 (hb s.f2 2), .int .u8 (hb s.f2 3), .int .u8 (hb s.f2 4), .int .u8 (hb s.f2 5), .int .u8 (hb s.f2 6), .int .u8 (hb s.f2 7), .int .u8 (hb s.f2 8), .int .u8 (hb s.f2 9), .int .u8 (hb s.f2 10), .int .u8 (hb s.f2 11), .int .u8 (hb s.f2 12), .int .u8 (hb s.f2 13), .int .u8 (hb s.f2 14), .int .u8 (hb s.f2 15), .int .u8 (hb s.f2 16), .int .u8 (hb s.f2 17), .int .u8 (hb s.f2 18), .int .u8 (hb s.f2 19)] 95 (0, 0)) → Calls Tryd.prog 46 #[.string s.f0, .int .u8 0] W1 fun e w' => e = .returned (.int .i64 (-1)) ∧ Te w0 w' o E g gb tcs l ([] ++ X0) ∧ w'.heap[ge]? = some (.cells #[.string s.f0, .int .u32 s.f1, .int .u8 (hb s.f2 0), .int .u8 (hb s.f2 1), .int .u8 (hb s.f2 2), .int .u8 (hb s.f2 3), .int .u8 (hb s.f2 4), .int .u8 (hb s.f2 5), .int .u8 (hb s.f2 6), .int .u8 (hb s.f2 7), .int .u8 (hb s.f2 8), .int .u8 (hb s.f2 9), .int .u8 (hb s.f2 10), .int .u8 (hb s.f2 11), .int .u8 (hb s.f2 12), .int .u8 (hb s.f2 13), .int .u8 (hb s.f2 14), .int .u8 (hb s.f2 15), .int .u8 (hb s.f2 16), .int .u8 (hb s.f2 17), .int .u8 (hb s.f2 18), .int .u8 (hb s.f2 19)] 95 (0, 0))) :=
      ⟨fun W1 h hr => (strings_IndexByte.calls s.f0 0 (-1) W1 HOS.out.z).mono (by
        rintro e w' ⟨rfl, k⟩
        exact ⟨rfl, h.below k.below, (k.below.block ge (blk_lt hr)).trans hr⟩)⟩
    have PFU : Aside0 (∀ W1, Te w0 W1 o E g gb tcs l ([] ++ X0) → W1.heap[ge]? = some (.cells #[.string s.f0, .int .u32 s.f1, .int .u8 (hb s.f2 0), .int .u8 (hb s.f2 1), .int .u8 (hb s.f2 2), .int .u8 (hb s.f2 3), .int .u8 (hb s.f2 4), .int .u8 (hb s.f2 5), .int .u8 (hb s.f2 6), .int .u8 (hb s.f2 7), .int .u8 (hb s.f2 8), .int .u8 (hb s.f2 9), .int .u8 (hb s.f2 10), .int .u8 (hb s.f2 11), .int .u8 (hb s.f2 12), .int .u8 (hb s.f2 13), .int .u8 (hb s.f2 14), .int .u8 (hb s.f2 15), .int .u8 (hb s.f2 16), .int .u8 (hb s.f2 17), .int .u8 (hb s.f2 18), .int .u8 (hb s.f2 19)] 95 (0, 0)) → Calls Tryd.prog 49 #[.int .u64 mo, .int .i64 8] W1 fun e w' => e = .returned (.string ot) ∧ Te w0 w' o E g gb tcs l ([] ++ X0) ∧ w'.heap[ge]? = some (.cells #[.string s.f0, .int .u32 s.f1, .int .u8 (hb s.f2 0), .int .u8 (hb s.f2 1), .int .u8 (hb s.f2 2), .int .u8 (hb s.f2 3), .int .u8 (hb s.f2 4), .int .u8 (hb s.f2 5), .int .u8 (hb s.f2 6), .int .u8 (hb s.f2 7), .int .u8 (hb s.f2 8), .int .u8 (hb s.f2 9), .int .u8 (hb s.f2 10), .int .u8 (hb s.f2 11), .int .u8 (hb s.f2 12), .int .u8 (hb s.f2 13), .int .u8 (hb s.f2 14), .int .u8 (hb s.f2 15), .int .u8 (hb s.f2 16), .int .u8 (hb s.f2 17), .int .u8 (hb s.f2 18), .int .u8 (hb s.f2 19)] 95 (0, 0))) :=
      ⟨fun W1 h hr => by
        have h0 := HOS.out.m0
        have h1 := HOS.out.m1
        have hf := formatUint s.f1.toNat (by omega) W1 (fun W hW => HC3.out W (h.mo.bel.trans (hW.mono h.mo.bel.size)))
        rw [show ((s.f1.toNat : Nat) : Int) = mo by omega, ← hot] at hf
        refine hf.mono ?_
        rintro e w' ⟨rfl, k⟩
        exact ⟨rfl, h.below k, (k.block ge (blk_lt hr)).trans hr⟩⟩
    have PWS : Aside0 (∀ W1, Te w0 W1 o E g gb tcs l ([] ++ X0) → W1.heap[ge]? = some (.cells #[.string s.f0, .int .u32 s.f1, .int .u8 (hb s.f2 0), .int .u8 (hb s.f2 1), .int .u8 (hb s.f2 2), .int .u8 (hb s.f2 3), .int .u8 (hb s.f2 4), .int .u8 (hb s.f2 5), .int .u8 (hb s.f2 6), .int .u8 (hb s.f2 7), .int .u8 (hb s.f2 8), .int .u8 (hb s.f2 9), .int .u8 (hb s.f2 10), .int .u8 (hb s.f2 11), .int .u8 (hb s.f2 12), .int .u8 (hb s.f2 13), .int .u8 (hb s.f2 14), .int .u8 (hb s.f2 15), .int .u8 (hb s.f2 16), .int .u8 (hb s.f2 17), .int .u8 (hb s.f2 18), .int .u8 (hb s.f2 19)] 95 (0, 0)) → Calls Tryd.prog 48 #[.iface 57 (.pointer (some ⟨o, 0, none⟩)), .string (ot ++ (⟨#[32]⟩ : ByteArray) ++ s.f0)] W1 fun e w' => ∃ n, e = .returned (.tuple #[.int .i64 n, .nilIface]) ∧ Te w0 w' o E g gb tcs l ([] ++ X0 ++ nums (ot ++ (⟨#[32]⟩ : ByteArray) ++ s.f0)) ∧ w'.heap[ge]? = some (.cells #[.string s.f0, .int .u32 s.f1, .int .u8 (hb s.f2 0), .int .u8 (hb s.f2 1), .int .u8 (hb s.f2 2), .int .u8 (hb s.f2 3), .int .u8 (hb s.f2 4), .int .u8 (hb s.f2 5), .int .u8 (hb s.f2 6), .int .u8 (hb s.f2 7), .int .u8 (hb s.f2 8), .int .u8 (hb s.f2 9), .int .u8 (hb s.f2 10), .int .u8 (hb s.f2 11), .int .u8 (hb s.f2 12), .int .u8 (hb s.f2 13), .int .u8 (hb s.f2 14), .int .u8 (hb s.f2 15), .int .u8 (hb s.f2 16), .int .u8 (hb s.f2 17), .int .u8 (hb s.f2 18), .int .u8 (hb s.f2 19)] 95 (0, 0))) :=
      ⟨fun W1 h hr => (h.put HGE.out.1 HGE.out.2.1 HGE.out.2.2 (ot ++ (⟨#[32]⟩ : ByteArray) ++ s.f0) (by
        have l1 : (⟨#[32]⟩ : ByteArray).size = 1 := rfl
        have := HLE.out
        simp only [List.length_append, List.length_nil, ByteArray.size_append, l1]
        omega)).mono (by
        rintro e w' ⟨n, rfl, k1, k2⟩
        exact ⟨n, rfl, k1, k2.2 ge _ _ HGO.out (by decide) hr⟩)⟩
    have PWZ : Aside0 (∀ W1, Te w0 W1 o E g gb tcs l ([] ++ X0 ++ nums (ot ++ (⟨#[32]⟩ : ByteArray) ++ s.f0)) → W1.heap[ge]? = some (.cells #[.string s.f0, .int .u32 s.f1, .int .u8 (hb s.f2 0), .int .u8 (hb s.f2 1), .int .u8 (hb s.f2 2), .int .u8 (hb s.f2 3), .int .u8 (hb s.f2 4), .int .u8 (hb s.f2 5), .int .u8 (hb s.f2 6), .int .u8 (hb s.f2 7), .int .u8 (hb s.f2 8), .int .u8 (hb s.f2 9), .int .u8 (hb s.f2 10), .int .u8 (hb s.f2 11), .int .u8 (hb s.f2 12), .int .u8 (hb s.f2 13), .int .u8 (hb s.f2 14), .int .u8 (hb s.f2 15), .int .u8 (hb s.f2 16), .int .u8 (hb s.f2 17), .int .u8 (hb s.f2 18), .int .u8 (hb s.f2 19)] 95 (0, 0)) → Calls Tryd.prog 130 #[.pointer (some ⟨o, 0, none⟩), .slice (some ⟨W1.heap.size, 0, none⟩) 1 1] (W1.alloc (.cells #[.int .u8 0] 5)) fun e w' => ∃ n, e = .returned (.tuple #[.int .i64 n, .nilIface]) ∧ Te w0 w' o E g gb tcs l ([] ++ X0 ++ nums (ot ++ (⟨#[32]⟩ : ByteArray) ++ s.f0) ++ [0]) ∧ w'.heap[ge]? = some (.cells #[.string s.f0, .int .u32 s.f1, .int .u8 (hb s.f2 0), .int .u8 (hb s.f2 1), .int .u8 (hb s.f2 2), .int .u8 (hb s.f2 3), .int .u8 (hb s.f2 4), .int .u8 (hb s.f2 5), .int .u8 (hb s.f2 6), .int .u8 (hb s.f2 7), .int .u8 (hb s.f2 8), .int .u8 (hb s.f2 9), .int .u8 (hb s.f2 10), .int .u8 (hb s.f2 11), .int .u8 (hb s.f2 12), .int .u8 (hb s.f2 13), .int .u8 (hb s.f2 14), .int .u8 (hb s.f2 15), .int .u8 (hb s.f2 16), .int .u8 (hb s.f2 17), .int .u8 (hb s.f2 18), .int .u8 (hb s.f2 19)] 95 (0, 0))) :=
      ⟨fun W1 h hr => by
        have hb := below_alloc (Below.refl W1.heap.size W1) (.cells #[.int .u8 0] 5)
        refine ((h.below hb).putB HGE.out.1 HGE.out.2.1 HGE.out.2.2 [0] _ 1 1 rfl (C_blk (off := 0) (cur := [.int .u8 0]) (t := 5) (blk_new W1 _) (by decide) (fun j x hx => ?_)) ?_).mono ?_
        · rcases j with _ | j
          · simp at hx; subst hx; rfl
          · simp at hx
        · have l1 : (⟨#[32]⟩ : ByteArray).size = 1 := rfl
          have := HLE.out
          simp only [List.length_append, List.length_nil, nums_len, ByteArray.size_append, l1, List.length_cons]
          omega
        · rintro e w' ⟨n, rfl, k1, k2⟩
          exact ⟨n, rfl, k1, k2.2 ge _ _ HGO.out (by decide) ((hb.block ge (blk_lt hr)).trans hr)⟩⟩
    have PWH : Aside0 (∀ W1, Te w0 W1 o E g gb tcs l ([] ++ X0 ++ nums (ot ++ (⟨#[32]⟩ : ByteArray) ++ s.f0) ++ [0]) → W1.heap[ge]? = some (.cells #[.string s.f0, .int .u32 s.f1, .int .u8 (hb s.f2 0), .int .u8 (hb s.f2 1), .int .u8 (hb s.f2 2), .int .u8 (hb s.f2 3), .int .u8 (hb s.f2 4), .int .u8 (hb s.f2 5), .int .u8 (hb s.f2 6), .int .u8 (hb s.f2 7), .int .u8 (hb s.f2 8), .int .u8 (hb s.f2 9), .int .u8 (hb s.f2 10), .int .u8 (hb s.f2 11), .int .u8 (hb s.f2 12), .int .u8 (hb s.f2 13), .int .u8 (hb s.f2 14), .int .u8 (hb s.f2 15), .int .u8 (hb s.f2 16), .int .u8 (hb s.f2 17), .int .u8 (hb s.f2 18), .int .u8 (hb s.f2 19)] 95 (0, 0)) → Calls Tryd.prog 130 #[.pointer (some ⟨o, 0, none⟩), .slice (some ⟨ge, 2, none⟩) 20 20] W1 fun e w' => ∃ n, e = .returned (.tuple #[.int .i64 n, .nilIface]) ∧ Te w0 w' o E g gb tcs l ([] ++ X0 ++ nums (ot ++ (⟨#[32]⟩ : ByteArray) ++ s.f0) ++ [0] ++ hashN s.f2) ∧ w'.heap[ge]? = some (.cells #[.string s.f0, .int .u32 s.f1, .int .u8 (hb s.f2 0), .int .u8 (hb s.f2 1), .int .u8 (hb s.f2 2), .int .u8 (hb s.f2 3), .int .u8 (hb s.f2 4), .int .u8 (hb s.f2 5), .int .u8 (hb s.f2 6), .int .u8 (hb s.f2 7), .int .u8 (hb s.f2 8), .int .u8 (hb s.f2 9), .int .u8 (hb s.f2 10), .int .u8 (hb s.f2 11), .int .u8 (hb s.f2 12), .int .u8 (hb s.f2 13), .int .u8 (hb s.f2 14), .int .u8 (hb s.f2 15), .int .u8 (hb s.f2 16), .int .u8 (hb s.f2 17), .int .u8 (hb s.f2 18), .int .u8 (hb s.f2 19)] 95 (0, 0))) :=
      ⟨fun W1 h hr => by
        have hlen : (hashN s.f2).length = 20 := by unfold hashN; simp
        have hCC := C_blk (off := 2) (xs := hashN s.f2) (cur := [.string s.f0, .int .u32 s.f1, .int .u8 (hb s.f2 0), .int .u8 (hb s.f2 1), .int .u8 (hb s.f2 2), .int .u8 (hb s.f2 3), .int .u8 (hb s.f2 4), .int .u8 (hb s.f2 5), .int .u8 (hb s.f2 6), .int .u8 (hb s.f2 7), .int .u8 (hb s.f2 8), .int .u8 (hb s.f2 9), .int .u8 (hb s.f2 10), .int .u8 (hb s.f2 11), .int .u8 (hb s.f2 12), .int .u8 (hb s.f2 13), .int .u8 (hb s.f2 14), .int .u8 (hb s.f2 15), .int .u8 (hb s.f2 16), .int .u8 (hb s.f2 17), .int .u8 (hb s.f2 18), .int .u8 (hb s.f2 19)]) (t := 95) hr (by rw [hlen]; decide) (fun j x hx => by
          unfold hashN at hx
          rw [List.getElem?_map] at hx
          obtain ⟨i, hi, rfl⟩ := Option.map_eq_some_iff.1 hx
          obtain ⟨hj, he⟩ := List.getElem?_eq_some_iff.1 hi
          rw [List.length_range] at hj
          rw [List.getElem_range] at he
          subst he
          have : ∀ j, j < 20 → ([.string s.f0, .int .u32 s.f1, .int .u8 (hb s.f2 0), .int .u8 (hb s.f2 1), .int .u8 (hb s.f2 2), .int .u8 (hb s.f2 3), .int .u8 (hb s.f2 4), .int .u8 (hb s.f2 5), .int .u8 (hb s.f2 6), .int .u8 (hb s.f2 7), .int .u8 (hb s.f2 8), .int .u8 (hb s.f2 9), .int .u8 (hb s.f2 10), .int .u8 (hb s.f2 11), .int .u8 (hb s.f2 12), .int .u8 (hb s.f2 13), .int .u8 (hb s.f2 14), .int .u8 (hb s.f2 15), .int .u8 (hb s.f2 16), .int .u8 (hb s.f2 17), .int .u8 (hb s.f2 18), .int .u8 (hb s.f2 19)] : List Value)[2 + j]? = some (.int .u8 (hb s.f2 j)) := by
            intro j hj
            iterate 20 (rcases j with _ | j; · rfl)
            omega
          exact this j hj)
        rw [hlen] at hCC
        refine (h.putB HGE.out.1 HGE.out.2.1 HGE.out.2.2 (hashN s.f2) _ 20 20 hlen.symm hCC ?_).mono ?_
        · have l1 : (⟨#[32]⟩ : ByteArray).size = 1 := rfl
          have := HLE.out
          simp only [List.length_append, List.length_nil, nums_len, ByteArray.size_append, l1, List.length_cons, hlen]
          omega
        · rintro e w' ⟨n, rfl, k1, k2⟩
          exact ⟨n, rfl, k1, k2.2 ge _ _ HGO.out (by decide) hr⟩⟩
    have HFIN : Aside0 ([] ++ X0 ++ nums (ot ++ (⟨#[32]⟩ : ByteArray) ++ s.f0) ++ [0] ++ hashN s.f2 = [] ++ entsOut (l.take (k + 1))) := ⟨by
      rw [HTK.out, hot]
      unfold entOut
      simp only [List.nil_append, List.append_assoc]⟩
    clear hot hotl HTK HLE hnml
    have n0 : wn.cell? ⟨ge, 0, none⟩ = some (.string s.f0) := (blk_cell HRW.out 0).trans rfl
    obtain ⟨e0, e1, e2⟩ := HC2.out.res
    rw [← hmo] at HRW PIB PFU PWS PWZ PWH
    clear hmo
    go_upto_region 13 with (first
      | (go_at_call 46
         (with_reducible refine (PIB.out _ HC2.out HRW.out).mono ?_)
         rintro x w4 ⟨rfl, k4, hr4⟩
         have T4 := Aside0.mk k4
         have HR4 := Aside0.mk hr4
         obtain ⟨e0, e1, e2⟩ := k4.res
         clear k4 hr4)
      | fail)
    have n0' : w4.cell? ⟨ge, 0, none⟩ = some (.string s.f0) := (blk_cell HR4.out 0).trans rfl
    have n1' : w4.cell? ⟨ge, 1, none⟩ = some (.int .u32 mo) := (blk_cell HR4.out 1).trans rfl
    have TD := Aside0.mk (T4.out.below (Below.refl _ _).drew)
    have HRD : Aside0 (w4.drew.heap[ge]? = some (.cells #[.string s.f0, .int .u32 mo, .int .u8 (hb s.f2 0), .int .u8 (hb s.f2 1), .int .u8 (hb s.f2 2), .int .u8 (hb s.f2 3), .int .u8 (hb s.f2 4), .int .u8 (hb s.f2 5), .int .u8 (hb s.f2 6), .int .u8 (hb s.f2 7), .int .u8 (hb s.f2 8), .int .u8 (hb s.f2 9), .int .u8 (hb s.f2 10), .int .u8 (hb s.f2 11), .int .u8 (hb s.f2 12), .int .u8 (hb s.f2 13), .int .u8 (hb s.f2 14), .int .u8 (hb s.f2 15), .int .u8 (hb s.f2 16), .int .u8 (hb s.f2 17), .int .u8 (hb s.f2 18), .int .u8 (hb s.f2 19)] 95 (0, 0))) := ⟨HR4.out⟩
    clear PIB T4 HR4 HC2 HRW n0
    go_region_held3 (fun w' => w'.cell? ⟨ge, 0, none⟩ = some (.string s.f0) ∧ w'.cell? ⟨ge, 1, none⟩ = some (.int .u32 mo)) (go_keep) (first
      | (go_at_call 49
         (with_reducible refine (PFU.out _ TD.out HRD.out).mono ?_)
         rintro x w5 ⟨rfl, k5, hr5⟩
         have T5 := Aside0.mk k5
         have HR5 := Aside0.mk hr5
         have n0'' : w5.cell? ⟨ge, 0, none⟩ = some (.string s.f0) := (blk_cell hr5 0).trans rfl
         have n1'' : w5.cell? ⟨ge, 1, none⟩ = some (.int .u32 mo) := (blk_cell hr5 1).trans rfl
         obtain ⟨e0, e1, e2⟩ := k5.res
         clear k5 hr5)
      | (go_at_call 48
         (with_reducible refine (PWS.out _ T5.out HR5.out).mono ?_)
         rintro x w6 ⟨n6, rfl, k6, hr6⟩
         have T6 := Aside0.mk k6
         have HR6 := Aside0.mk hr6
         have n0'' : w6.cell? ⟨ge, 0, none⟩ = some (.string s.f0) := (blk_cell hr6 0).trans rfl
         have n1'' : w6.cell? ⟨ge, 1, none⟩ = some (.int .u32 mo) := (blk_cell hr6 1).trans rfl
         obtain ⟨e0, e1, e2⟩ := k6.res
         clear k6 hr6)
      )
    clear PFU PWS TD HRD T5 HR5
    go_upto_region 19 with (first
      | (go_at_call 130
         (with_reducible refine (PWZ.out _ T6.out HR6.out).mono ?_)
         rintro x w7 ⟨n7, rfl, k7, hr7⟩
         have T7 := Aside0.mk k7
         have HR7 := Aside0.mk hr7
         have n0'' : w7.cell? ⟨ge, 0, none⟩ = some (.string s.f0) := (blk_cell hr7 0).trans rfl
         obtain ⟨e0, e1, e2⟩ := k7.res
         clear k7 hr7)
      | fail)
    have TD := Aside0.mk (T7.out.below (Below.refl _ _).drew)
    have HRD : Aside0 (w7.drew.heap[ge]? = some (.cells #[.string s.f0, .int .u32 mo, .int .u8 (hb s.f2 0), .int .u8 (hb s.f2 1), .int .u8 (hb s.f2 2), .int .u8 (hb s.f2 3), .int .u8 (hb s.f2 4), .int .u8 (hb s.f2 5), .int .u8 (hb s.f2 6), .int .u8 (hb s.f2 7), .int .u8 (hb s.f2 8), .int .u8 (hb s.f2 9), .int .u8 (hb s.f2 10), .int .u8 (hb s.f2 11), .int .u8 (hb s.f2 12), .int .u8 (hb s.f2 13), .int .u8 (hb s.f2 14), .int .u8 (hb s.f2 15), .int .u8 (hb s.f2 16), .int .u8 (hb s.f2 17), .int .u8 (hb s.f2 18), .int .u8 (hb s.f2 19)] 95 (0, 0))) := ⟨HR7.out⟩
    go_region_held3 (fun w' => w'.cell? ⟨ge, 0, none⟩ = some (.string s.f0)) (go_keep) (first
      | (go_at_call 130
         (with_reducible refine (PWH.out _ TD.out HRD.out).mono ?_)
         rintro x w8 ⟨n8, rfl, k8, hr8⟩
         have T8 := Aside0.mk k8
         have n0'' : w8.cell? ⟨ge, 0, none⟩ = some (.string s.f0) := (blk_cell hr8 0).trans rfl
         obtain ⟨e0, e1, e2⟩ := k8.res
         clear k8 hr8)
      )
    go_wp2_with fail
    go_roundg m
    case measure => omega
    case rel => exact ⟨k + 1, by first | rfl | rw [HWK.out], ⟨by have := HK.out; omega⟩, ⟨by rw [← HFIN.out]; exact T8.out⟩⟩
end Go.Proofs.YtddnepddilbikaaDoor.ObjO
