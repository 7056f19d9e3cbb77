/- spec.Capital, walked. -/
import Derived.Test.YtacndeejapfkiaaDoorHandA
set_option linter.unusedVariables false
set_option linter.unusedSimpArgs false
namespace Go.Proofs.YtacndeejapfkiaaDoor.HandK
open Go.RowKit Go.Proofs.YtacndeejapfkiaaDoorW.PrintWords Go.Proofs.YtacndeejapfkiaaDoorW.PrintLast Go.Proofs.YtacndeejapfkiaaDoorW.PrintMore Go.Proofs.YtacndeejapfkiaaDoor.QAll Txt Ptr HandA

/-! ### Capital letters -/
theorem info5 : (Tryd.prog.info? 5).map (fun i => (i.zero, i.size, i.bytes)) = some (some (.int .u8 0), 1, 1) := by kernel_rfl
/-- The numbers of the capital letters. -/
def cap (s : ByteArray) : List Int := s.toList.map fun c => (c.toNat : Int) - 32
theorem cap_len (s : ByteArray) : (cap s).length = s.size := by unfold cap; rw [List.length_map, size_list]
theorem cap_alike (s : ByteArray) (h : ∀ c ∈ s.toList, Sm c) : FoldA (strOfNums (cap s)) s := by
  unfold FoldA cap
  have key : ∀ l : List UInt8, (∀ c ∈ l, Sm c) → FoldL (l.map fun c => UInt8.ofNat ((c.toNat : Int) - 32).toNat) l := by
    intro l
    induction l with
    | nil => intro _; trivial
    | cons c l ih =>
      intro hl
      refine ⟨Or.inr ?_, ih (fun d hd => hl d (List.mem_cons_of_mem _ hd))⟩
      have hc := hl c List.mem_cons_self
      unfold Sm at hc
      rw [UInt8.toNat_ofNat', Nat.mod_eq_of_lt (by omega)]
      omega
  have e : (strOfNums (s.toList.map fun c => (c.toNat : Int) - 32)).toList = s.toList.map fun c => UInt8.ofNat ((c.toNat : Int) - 32).toNat := by
    rw [Lib.toList_data]
    unfold strOfNums
    simp
  rw [e]
  exact key _ h

set_option maxHeartbeats 4000000 in
set_option maxRecDepth 100000 in
theorem capital (s : ByteArray) (w : World) (hs : Word s) :
    Calls Tryd.prog 8 #[.string s] w fun e w' => e = .returned (.string (strOfNums (cap s))) ∧ Below w.heap.size w w' := by
  have HS := Aside0.mk hs
  have hl1 : (s.size : Int) ≤ 1000 := by have := hs.len; omega
  clear hs
  go_enter Tryd.func8, Tryd.ntmps8
  go_wp2
  go_loopg [3, 7] s.size (fun gk v3 v7 w' => ∃ (k : Nat) (V : Value), v3 = V ∧ v7 = .int .i64 (k : Int) ∧ Aside0 (k + gk = s.size) ∧ Aside0 (Below w.heap.size w w') ∧ Aside0 ((Kd.int .u8).R 5 w' w.heap.size (fun _ => True) V ((cap s).take k)))
  case atStart => exact ⟨0, _, rfl, rfl, ⟨by omega⟩, ⟨Below.refl _ _⟩, ⟨Kd.R_nil _ _ _ _ _⟩⟩
  case round =>
    obtain ⟨k, V, hV, rfl, HK, HB, HR⟩ := hrel
    replace hV := hV.symm
    subst hV
    by_cases hlt : k < s.size
    rotate_left
    · have hkn : k = s.size := by have := HK.out; omega
      have hR := HR.out
      rw [hkn, ← cap_len, List.take_length] at hR
      obtain ⟨A, c, rfl, _, hC⟩ := Kd.R_reads hR
      have hconv := fun W (hb : (Kd.int .u8).C W A (cap s).length (cap s)) => Kd.C_string (P := Tryd.prog) (c := c) Tryd.underlying44 Tryd.underlying5 Tryd.underlying9 hb
      have hcv := hconv wr hC
      clear hR hC hconv HR
      go_wp2
      go_ret
      exact ⟨rfl, HB.out⟩
    obtain ⟨g0, rfl⟩ : ∃ m, gk = m + 1 := ⟨gk - 1, by have := HK.out; omega⟩
    have hk1 : (k : Int) < (s.size : Int) := by omega
    obtain ⟨ch, hch, hmem, hbt⟩ := bt_at' s k hlt
    have hsm := HS.out.sm ch hmem
    unfold Sm at hsm
    have hsk : (s[k]'hlt) = ch := by
      have h := hch
      rw [Lib.toList_data, Array.getElem?_toList] at h
      obtain ⟨h1, h2⟩ := Array.getElem?_eq_some_iff.1 h
      exact h2
    have HTK : Aside0 ((cap s).take (k + 1) = (cap s).take k ++ [(ch.toNat : Int) - 32]) := ⟨by
      rw [List.take_add_one]
      congr 1
      unfold cap
      rw [List.getElem?_map, hch]
      rfl⟩
    have HSM : Aside0 ((s[k]'hlt).toNat = ch.toNat ∧ 97 ≤ ch.toNat ∧ ch.toNat ≤ 122) := ⟨by rw [hsk], hsm⟩
    clear hbt hch hmem hsm hsk
    go_wp2_with (first
      | ((with_reducible refine gate_builtin (b := .append) (xs := #[.tmp 10, .tmp 16]) rfl ?_); at_builtin; refine Kd.R_append (Kd.int .u8) (w0 := w) w.heap.size rfl (.tmp 10) (.tmp 16) 44 5 (.int .u8 0) 1 rfl Tryd.underlying44 info5 rfl (by decide) (by decide) V ((cap s).take k) _ [.int .u8 _] (fun _ => True) (fun _ => False) rfl ?hx rfl (fun _ h => h.elim) (fun _ _ => trivial) HR.out HB.out HB.out.size ?hlen ?_
         case hx => first | (go_simp; done) | (simp [Act.eval]; done)
         case hlen => rw [List.length_take]; have := Nat.min_le_left k (cap s).length; omega
         intro v7 w7 ho7 hb7 hg7 hat7
         have HR7 : Aside0 (∃ z : Int, (Kd.int .u8).R 5 w7 w.heap.size (fun _ => True) v7 ((cap s).take k ++ [z]) ∧ z = (ch.toNat : Int) - 32) := ⟨_, ho7, by have := HSM.out; omega⟩
         have HB7 := Aside0.mk hb7
         clear ho7 hb7 hg7 hat7))
    go_roundg g0
    case measure => omega
    case rel => exact ⟨k + 1, v7, rfl, by push_cast; rfl, ⟨by have := HK.out; omega⟩, HB7, ⟨by obtain ⟨z, h, e⟩ := HR7.out; rw [HTK.out, ← e]; exact h⟩⟩

#print axioms capital
end Go.Proofs.YtacndeejapfkiaaDoor.HandK
