/- Bytes that came in (read from a place on), and packfile.decodeLEB128 walked at a number that is written whole. -/
import Derived.Test.YtlboochpbplhlaaDoorQAllx0
import Derived.Test.YtlboochpbplhlaaDoorPureD
set_option linter.unusedVariables false
set_option linter.unusedSimpArgs false
namespace Go.Proofs.YtlboochpbplhlaaDoor.HandA
open Go.RowKit Go.Proofs.YtlboochpbplhlaaDoorW.PrintWords Go.Proofs.YtlboochpbplhlaaDoor.QAll PureD

/-- Bytes below block B, from some place on. -/
def Sd (w : World) (B : Nat) (A : Option Addr) (c : Nat) (l : List Int) : Prop :=
  l.length ≤ c ∧ l.length ≤ 140737488355328 ∧ (∀ x ∈ l, 0 ≤ x ∧ x ≤ 255) ∧ (0 < l.length → ∃ g o, A = some ⟨g, o, none⟩ ∧ g < B ∧ ∀ j x, l[j]? = some x → w.cell? ⟨g, o + j, none⟩ = some (.int .u8 x))
theorem Sd.below {w W : World} {B : Nat} {A : Option Addr} {c : Nat} {l : List Int} (h : Sd w B A c l) (hb : Below B w W) : Sd W B A c l :=
  ⟨h.1, h.2.1, h.2.2.1, fun hl => by
    obtain ⟨g, o, rfl, hg, hc⟩ := h.2.2.2 hl
    exact ⟨g, o, rfl, hg, fun j x hj => (hb.cell (p := ⟨g, o + j, none⟩) hg).trans (hc j x hj)⟩⟩
theorem Sd.mono {w : World} {B B' : Nat} {A : Option Addr} {c : Nat} {l : List Int} (h : Sd w B A c l) (hB : B ≤ B') : Sd w B' A c l :=
  ⟨h.1, h.2.1, h.2.2.1, fun hl => by
    obtain ⟨g, o, rfl, hg, hc⟩ := h.2.2.2 hl
    exact ⟨g, o, rfl, by omega, hc⟩⟩
theorem Sd.cut {w : World} {B : Nat} {A : Option Addr} {c : Nat} {l : List Int} (h : Sd w B A c l) (k : IntKind) (m : Nat) (hm : m ≤ l.length) :
    ∃ A', (∀ W, (Instr.slice 22 (.slice A l.length c) (some (.int k (m : Int))) none none).run Tryd.prog W = .ok (.slice A' (l.length - m) (c - m)) W) ∧ Sd w B A' (c - m) (l.drop m) := by
  obtain ⟨i0, hi0, _, hsz, _⟩ := info_parts info5
  obtain ⟨h1, h2, h3, h4⟩ := h
  refine ⟨if c = (m : Int).toNat then A else A.map (·.add ((m : Int).toNat * 1)), fun W => ?_, ?_, by rw [List.length_drop]; omega, fun x hx => h3 x (List.mem_of_mem_drop hx), fun hl => ?_⟩
  · exact cut_from (P := Tryd.prog) 22 5 k Tryd.underlying22 hi0 1 hsz A l.length c m (by omega) (by omega) W
  · rw [List.length_drop]; omega
  · rw [List.length_drop] at hl
    obtain ⟨g, o, rfl, hg, hc⟩ := h4 (by omega)
    have hne : ¬ c = m := by omega
    refine ⟨g, o + m, ?_, hg, fun j x hj => ?_⟩
    · rw [Int.toNat_natCast, if_neg hne]
      unfold Addr.add
      split <;> simp_all
    · rw [List.getElem?_drop] at hj
      rw [Nat.add_assoc]
      exact hc _ _ hj
theorem Sd.head {w : World} {B : Nat} {A : Option Addr} {c : Nat} {b : Int} {l : List Int} (h : Sd w B A c (b :: l)) : ∃ g o, A = some ⟨g, o, none⟩ ∧ w.cell? ⟨g, o, none⟩ = some (.int .u8 b) := by
  obtain ⟨g, o, rfl, _, hc⟩ := h.2.2.2 (by simp)
  exact ⟨g, o, rfl, hc 0 b rfl⟩

theorem wraps_u64 (n : Int) (h0 : 0 ≤ n) (h1 : n < 2 ^ 63) : IntKind.u64.wrap n = n := by simp [IntKind.wrap, IntKind.bits, IntKind.signed]; omega
theorem and128_hi (b : Nat) (h : b < 256) (h1 : 128 ≤ b) : bits .and .u64 (b : Int) 128 = 128 := by
  rw [show (128 : Int) = ((128 : Nat) : Int) from rfl, (bits_nat .u64 63 (by decide) wraps_u64 b 128 (by omega) (by decide)).1]
  rw [show b &&& 128 = 128 from (by decide +kernel : ∀ b : Fin 256, 128 ≤ b.val → b.val &&& 128 = 128) ⟨b, h⟩ h1]
theorem and128_lo (b : Nat) (h : b < 128) : bits .and .u64 (b : Int) 128 = 0 := by
  rw [show (128 : Int) = ((128 : Nat) : Int) from rfl, (bits_nat .u64 63 (by decide) wraps_u64 b 128 (by omega) (by decide)).1]
  rw [show b &&& 128 = 0 from (by decide +kernel : ∀ b : Fin 128, b.val &&& 128 = 0) ⟨b, h⟩]
  rfl
theorem or7 (n j : Nat) (hj : j ≤ 7) : bits .or .u64 ((n % 128 ^ j : Nat) : Int) (IntKind.u64.wrap (bits .and .u64 (byte7 n j : Int) 127 * 2 ^ (j * 7))) = ((n % 128 ^ (j + 1) : Nat) : Int) := by
  have hb := byte7_lt n j
  have hm : bits .and .u64 (byte7 n j : Int) 127 = ((byte7 n j % 128 : Nat) : Int) := by
    have h1 := bits_mask .u64 63 (by decide) wraps_u64 7 (by decide) (byte7 n j : Int) (by omega) (by omega)
    simpa using h1
  rw [hm, byte7_mod]
  have hp : (128 : Nat) ^ j = 2 ^ (j * 7) := by rw [Nat.mul_comm, Nat.pow_mul]
  have hp2 : 2 ^ (j * 7) ≤ 2 ^ 49 := Nat.pow_le_pow_right (by omega) (by omega)
  have hpos : 0 < 128 ^ j := Nat.pow_pos (by omega)
  have hd : n / 128 ^ j % 128 < 128 := Nat.mod_lt _ (by omega)
  have hs : n / 128 ^ j % 128 * 2 ^ (j * 7) < 2 ^ 56 := by
    have : n / 128 ^ j % 128 * 2 ^ (j * 7) ≤ 127 * 2 ^ 49 := Nat.mul_le_mul (by omega) hp2
    omega
  have hr : n % 128 ^ j < 2 ^ 63 := by
    have := Nat.mod_lt n hpos
    rw [hp] at this
    rw [hp]
    omega
  have he : ((n / 128 ^ j % 128 : Nat) : Int) * 2 ^ (j * 7) = ((n / 128 ^ j % 128 * 2 ^ (j * 7) : Nat) : Int) := by push_cast; rfl
  rw [he, wraps_u64 _ (by omega) (by omega), (bits_nat .u64 63 (by decide) wraps_u64 _ _ hr (by omega)).2]
  congr 1
  have := enc7_or n j
  rwa [Nat.shiftLeft_eq, Nat.mul_comm 7 j] at this

set_option maxHeartbeats 4000000 in
set_option maxRecDepth 100000 in
theorem decode (n B : Nat) (hn : n < 72057594037927936) (A : Option Addr) (c : Nat) (rest : List Int) (w : World) (h : Sd w B A c (enc7 n ++ rest)) :
    Calls Tryd.prog 26 #[.slice A (enc7 n ++ rest).length c] w fun e w' => ∃ A' c', e = .returned (.tuple #[.int .u64 (n : Int), .slice A' rest.length c', .nilIface]) ∧ Sd w B A' c' rest ∧ ∃ q, w' = w.drewN q := by
  have hlen := enc7_pos n
  have hle := enc7_le n 8 hn (by omega)
  obtain ⟨A', hcut, hS⟩ := h.cut .u64 (enc7 n).length (by rw [List.length_append]; omega)
  obtain ⟨g, o, rfl, hg, hc⟩ := h.2.2.2 (by rw [List.length_append]; omega)
  have hcell : ∀ j, j < (enc7 n).length → w.cell? ⟨g, o + j, none⟩ = some (.int .u8 (byte7 n j : Int)) := fun j hj => hc j _ (by rw [List.getElem?_append_left hj]; exact enc7_get n j hj)
  have HC : Aside0 (∀ j, j < (enc7 n).length → w.cell? ⟨g, o + j, none⟩ = some (.int .u8 (byte7 n j : Int))) := ⟨hcell⟩
  have hcap := h.2.1
  have hlc := h.1
  clear hcell hc h
  obtain ⟨L, hL⟩ : ∃ L, L = (enc7 n ++ rest).length := ⟨_, rfl⟩
  rw [← hL] at hcut hlc hcap ⊢
  have HL : Aside0 (L = (enc7 n).length + rest.length) := ⟨by rw [hL, List.length_append]⟩
  have hLe : (enc7 n).length ≤ L := by have := HL.out; omega
  clear hL
  obtain ⟨E, hE⟩ : ∃ E, E = (enc7 n).length := ⟨_, rfl⟩
  rw [← hE] at hcut hS hlen hle hLe
  have HE := Aside0.mk hE
  have HCU := Aside0.mk hcut
  clear hE hcut
  go_enter Tryd.func26, Tryd.ntmps26
  go_wp2
  go_loopg [5, 6, 7] E (fun g0 v5 v6 v7 w' => ∃ (j : Nat) (b : Int), j < E ∧ v5 = .int .u64 ((n % 128 ^ j : Nat) : Int) ∧ v6 = .int .u64 (j : Int) ∧ v7 = .int .u8 b ∧ w' = w ∧ j + g0 = E)
  case atStart => exact ⟨0, 0, by omega, by simp [Nat.mod_one], rfl, rfl, rfl, by omega⟩
  case round =>
    obtain ⟨j, b, hj, rfl, rfl, rfl, rfl, hg0⟩ := hrel
    have hcell := HC.out j (by rw [← HE.out]; exact hj)
    have hb256 := byte7_lt n j
    have hw : IntKind.u64.wrap (byte7 n j : Int) = byte7 n j := wraps_u64 _ (by omega) (by omega)
    have HO : Aside0 (bits .or .u64 ((n % 128 ^ j : Nat) : Int) (IntKind.u64.wrap (bits .and .u64 (byte7 n j : Int) 127 * 2 ^ (j * 7))) = ((n % 128 ^ (j + 1) : Nat) : Int)) := ⟨or7 n j (by omega)⟩
    have hmore := enc7_more n j (by rw [← HE.out]; exact hj)
    rw [← HE.out] at hmore
    by_cases hm : j + 1 < E
    · have ha : bits .and .u64 (byte7 n j : Int) 128 = 128 := and128_hi _ hb256 (by have := hmore.1 hm; omega)
      clear hmore hb256
      generalize byte7 n j = b7 at *
      generalize n % 128 ^ j = nm at *
      go_wp2
      go_roundg (gk - 1)
      case measure => omega
      case rel => exact ⟨j + 1, _, by omega, by rw [HO.out], by push_cast; rfl, rfl, rfl, by omega⟩
    · have ha : bits .and .u64 (byte7 n j : Int) 128 = 0 := and128_lo _ (by have := fun h => hm (hmore.2 h); omega)
      have hn2 : n % 128 ^ (j + 1) = n := by
        have h1 := enc7_all n
        rwa [← HE.out, show E = j + 1 by omega] at h1
      rw [hn2] at HO
      obtain rfl : E = j + 1 := by omega
      have hcut : ∀ (W : World), (Instr.slice 22 (.slice (some ⟨g, o, none⟩) L c) (some (.int .u64 ((j : Int) + 1))) none none).run Tryd.prog W = .ok (.slice A' (L - (j + 1)) (c - (j + 1))) W := fun W => by have := HCU.out W; push_cast at this; exact this
      have HS : Aside0 (Sd wr B A' (c - (j + 1)) rest) := ⟨by rw [HE.out, List.drop_left] at hS; rwa [HE.out]⟩
      have HLR : Aside0 (L - (j + 1) = rest.length) := ⟨by have := HL.out; have := HE.out; omega⟩
      clear hmore hb256 hS hn2
      generalize byte7 n j = b7 at *
      generalize n % 128 ^ j = nm at *
      go_wp2
      go_quiet (fail)
      go_wp2
      go_ret3
      rw [HO.out, HLR.out]
      exact ⟨_, _, rfl, HS.out, _, rfl⟩
end Go.Proofs.YtlboochpbplhlaaDoor.HandA
