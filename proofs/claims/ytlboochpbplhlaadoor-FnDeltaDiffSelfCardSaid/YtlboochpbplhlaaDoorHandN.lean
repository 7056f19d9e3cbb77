/- hashBlock: a number below 2^31. -/
import Derived.Test.YtlboochpbplhlaaDoorHandD
set_option linter.unusedVariables false
set_option linter.unusedSimpArgs false
namespace Go.Proofs.YtlboochpbplhlaaDoor.HandN
open Go.RowKit Go.Proofs.YtlboochpbplhlaaDoorW.PrintWords Go.Proofs.YtlboochpbplhlaaDoor.QAll PureD HandA HandB HandC HandD

/-- The table T: 256 numbers, the top bit of each is its place's lowest. -/
def TabT (w : World) : Prop :=
  ∃ b o c, w.cell? ⟨6, 0, none⟩ = some (.slice (some ⟨b, o, none⟩) 256 c) ∧ 256 ≤ c ∧ b < w.heap.size ∧ 6 < w.heap.size ∧
    ∀ i : Nat, i < 256 → ∃ t : Nat, w.cell? ⟨b, o + i, none⟩ = some (.int .u32 (t : Int)) ∧ t < 4294967296 ∧ t / 2147483648 = i % 2
theorem TabT.below {w W : World} (h : TabT w) (hb : Below w.heap.size w W) : TabT W := by
  obtain ⟨b, o, c, h1, h2, h3, h4, h5⟩ := h
  refine ⟨b, o, c, (hb.cell (p := ⟨6, 0, none⟩) h4).trans h1, h2, Nat.lt_of_lt_of_le h3 hb.size, Nat.lt_of_lt_of_le h4 hb.size, fun i hi => ?_⟩
  obtain ⟨t, h6, h7⟩ := h5 i hi
  exact ⟨t, (hb.cell (p := ⟨b, o + i, none⟩) h3).trans h6, h7⟩

theorem u32_bits (x y : Nat) (hx : x < 4294967296) (hy : y < 4294967296) : bits .xor .u32 (x : Int) (y : Int) = ((x ^^^ y : Nat) : Int) := by
  have h1 : x % 2 ^ IntKind.u32.bits = x := Nat.mod_eq_of_lt hx
  have h2 : y % 2 ^ IntKind.u32.bits = y := Nat.mod_eq_of_lt hy
  have h3 : x ^^^ y < 2 ^ 32 := Nat.xor_lt_two_pow (n := 32) hx hy
  simp only [bits, BitVec.ofInt_natCast, BitVec.toNat_xor, BitVec.toNat_ofNat, h1, h2]
  rw [IntKind.wrap_u32]
  omega
theorem u32_or (x y : Nat) (hx : x < 4294967296) (hy : y < 4294967296) : bits .or .u32 (x : Int) (y : Int) = ((x ||| y : Nat) : Int) ∧ x ||| y < 4294967296 :=
  ⟨(bits_nat .u32 32 (by decide) (fun n h0 h1 => by rw [IntKind.wrap_u32]; omega) x y hx hy).2, Nat.or_lt_two_pow (n := 32) hx hy⟩
theorem u32_255 (x : Nat) (hx : x < 256) : bits .and .u32 (x : Int) 255 = (x : Int) := by
  rw [show (255 : Int) = ((255 : Nat) : Int) from rfl, (bits_nat .u32 32 (by decide) (fun n h0 h1 => by rw [IntKind.wrap_u32]; omega) x 255 (by omega) (by omega)).1]
  rw [show (255 : Nat) = 2 ^ 8 - 1 from rfl, Nat.and_two_pow_sub_one_eq_mod, Nat.mod_eq_of_lt hx]
theorem bit31 (x : Nat) (hx : x < 4294967296) : x.testBit 31 = decide (x / 2147483648 % 2 = 1) := by
  rw [Nat.testBit_eq_decide_div_mod_eq]
theorem below31 (x : Nat) (hx : x < 4294967296) (h : x.testBit 31 = false) : x < 2147483648 := by
  rw [bit31 x hx] at h
  have := of_decide_eq_false h
  omega
/-- The first step. -/
theorem step1 (H t : Nat) (hH : H < 4294967296) (ht : t < 4294967296) (hp : t / 2147483648 = H / 2147483648 % 2) : ∃ H' : Nat, bits .xor .u32 (H : Int) (t : Int) = (H' : Int) ∧ H' < 2147483648 := by
  refine ⟨H ^^^ t, u32_bits H t hH ht, below31 _ (Nat.xor_lt_two_pow (n := 32) hH ht) ?_⟩
  rw [Nat.testBit_xor, bit31 H hH, bit31 t ht, hp]
  have : H / 2147483648 % 2 % 2 = H / 2147483648 % 2 := by omega
  rw [this]
  simp
/-- Every other step. -/
theorem stepN (H t a : Nat) (hH : H < 2147483648) (ha : a < 256) (ht : t < 4294967296) (hp : t / 2147483648 = H / 8388608 % 2) :
    ∃ H' : Nat, bits .xor .u32 (bits .or .u32 ((H : Int) * 256 % 4294967296) (a : Int)) (t : Int) = (H' : Int) ∧ H' < 2147483648 := by
  have e1 : (H : Int) * 256 % 4294967296 = ((H * 256 % 4294967296 : Nat) : Int) := by omega
  have hX : H * 256 % 4294967296 < 4294967296 := Nat.mod_lt _ (by omega)
  obtain ⟨h1, h2⟩ := u32_or (H * 256 % 4294967296) a hX (by omega)
  rw [e1, h1]
  refine ⟨_, u32_bits _ t h2 ht, below31 _ (Nat.xor_lt_two_pow (n := 32) h2 ht) ?_⟩
  rw [Nat.testBit_xor, Nat.testBit_or, bit31 _ hX, bit31 a (by omega), bit31 t ht, hp]
  have e2 : a / 2147483648 % 2 = 0 := by omega
  have e3 : H * 256 % 4294967296 / 2147483648 % 2 = H / 8388608 % 2 := by omega
  have e4 : H / 8388608 % 2 % 2 = H / 8388608 % 2 := by omega
  rw [e2, e3, e4]
  simp
theorem first4 (x0 x1 x2 x3 : Nat) (h0 : x0 < 256) (h1 : x1 < 256) (h2 : x2 < 256) (h3 : x3 < 256) :
    ∃ H : Nat, bits .or .u32 (bits .or .u32 (bits .or .u32 ((x0 : Int) * 16777216) ((x1 : Int) * 65536)) ((x2 : Int) * 256)) (x3 : Int) = (H : Int) ∧ H < 4294967296 := by
  have e0 : (x0 : Int) * 16777216 = ((x0 * 16777216 : Nat) : Int) := by omega
  have e1 : (x1 : Int) * 65536 = ((x1 * 65536 : Nat) : Int) := by omega
  have e2 : (x2 : Int) * 256 = ((x2 * 256 : Nat) : Int) := by omega
  rw [e0, e1, e2]
  obtain ⟨k1, k2⟩ := u32_or (x0 * 16777216) (x1 * 65536) (by omega) (by omega)
  rw [k1]
  obtain ⟨k3, k4⟩ := u32_or _ (x2 * 256) k2 (by omega)
  rw [k3]
  obtain ⟨k5, k6⟩ := u32_or _ x3 k4 (by omega)
  exact ⟨_, k5, k6⟩

set_option maxHeartbeats 40000000 in
set_option maxRecDepth 100000 in
theorem hash (off B : Nat) (A : Option Addr) (c : Nat) (l : List Int) (w : World) (h : Sd w B A c l) (hT : TabT w) (ho : off + 16 ≤ l.length) :
    Calls Tryd.prog 49 #[.slice A l.length c, .int .i64 (off : Int)] w fun e w' => ∃ H : Nat, e = .returned (.int .i64 (H : Int)) ∧ H < 2147483648 ∧ ∃ q, w' = w.drewN q := by
  obtain ⟨tb, tf, tc, ht1, ht2, ht3, ht3', ht4⟩ := hT
  obtain ⟨g, o, rfl, hg, hc⟩ := h.2.2.2 (by omega)
  have hcap := h.2.1
  have hlc := h.1
  have hr := h.2.2.1
  have hx : ∀ k, k < 16 → ∃ x : Nat, w.cell? ⟨g, o + (off + k), none⟩ = some (.int .u8 (x : Int)) ∧ x < 256 := fun k hk => by
    have hlt : off + k < l.length := by omega
    have h1 := hc (off + k) l[off + k] (List.getElem?_eq_getElem hlt)
    have h2 := hr l[off + k] (List.getElem_mem hlt)
    obtain ⟨n, hn⟩ := Int.eq_ofNat_of_zero_le h2.1
    rw [hn] at h1 h2
    exact ⟨n, h1, by omega⟩
  obtain ⟨x0, c0, b0⟩ := hx 0 (by omega)
  have a0 := u32_255 x0 b0
  obtain ⟨x1, c1, b1⟩ := hx 1 (by omega)
  have a1 := u32_255 x1 b1
  obtain ⟨x2, c2, b2⟩ := hx 2 (by omega)
  have a2 := u32_255 x2 b2
  obtain ⟨x3, c3, b3⟩ := hx 3 (by omega)
  have a3 := u32_255 x3 b3
  obtain ⟨x4, c4, b4⟩ := hx 4 (by omega)
  have a4 := u32_255 x4 b4
  obtain ⟨x5, c5, b5⟩ := hx 5 (by omega)
  have a5 := u32_255 x5 b5
  obtain ⟨x6, c6, b6⟩ := hx 6 (by omega)
  have a6 := u32_255 x6 b6
  obtain ⟨x7, c7, b7⟩ := hx 7 (by omega)
  have a7 := u32_255 x7 b7
  obtain ⟨x8, c8, b8⟩ := hx 8 (by omega)
  have a8 := u32_255 x8 b8
  obtain ⟨x9, c9, b9⟩ := hx 9 (by omega)
  have a9 := u32_255 x9 b9
  obtain ⟨x10, c10, b10⟩ := hx 10 (by omega)
  have a10 := u32_255 x10 b10
  obtain ⟨x11, c11, b11⟩ := hx 11 (by omega)
  have a11 := u32_255 x11 b11
  obtain ⟨x12, c12, b12⟩ := hx 12 (by omega)
  have a12 := u32_255 x12 b12
  obtain ⟨x13, c13, b13⟩ := hx 13 (by omega)
  have a13 := u32_255 x13 b13
  obtain ⟨x14, c14, b14⟩ := hx 14 (by omega)
  have a14 := u32_255 x14 b14
  obtain ⟨x15, c15, b15⟩ := hx 15 (by omega)
  have a15 := u32_255 x15 b15
  rw [Nat.add_zero] at c0
  obtain ⟨L, hL⟩ : ∃ L, L = l.length := ⟨_, rfl⟩
  rw [← hL] at hlc hcap ho ⊢
  clear hc hx hr h hL
  obtain ⟨H0, e0, r0⟩ := first4 x0 x1 x2 x3 b0 b1 b2 b3
  have s0 : ((H0 : Int) / 2147483648).toNat = H0 / 2147483648 := by omega
  obtain ⟨t0, q0, u0, v0⟩ := ht4 (H0 / 2147483648) (by omega)
  obtain ⟨H1, e1, r1⟩ := step1 H0 t0 r0 u0 v0
  have s1 : ((H1 : Int) / 8388608).toNat = H1 / 8388608 := by omega
  have z1 : H1 / 8388608 < 256 := by omega
  obtain ⟨t1, q1, u1, v1⟩ := ht4 (H1 / 8388608) z1
  obtain ⟨H2, e2, r2⟩ := stepN H1 t1 x4 r1 b4 u1 v1
  have s2 : ((H2 : Int) / 8388608).toNat = H2 / 8388608 := by omega
  have z2 : H2 / 8388608 < 256 := by omega
  obtain ⟨t2, q2, u2, v2⟩ := ht4 (H2 / 8388608) z2
  obtain ⟨H3, e3, r3⟩ := stepN H2 t2 x5 r2 b5 u2 v2
  have s3 : ((H3 : Int) / 8388608).toNat = H3 / 8388608 := by omega
  have z3 : H3 / 8388608 < 256 := by omega
  obtain ⟨t3, q3, u3, v3⟩ := ht4 (H3 / 8388608) z3
  obtain ⟨H4, e4, r4⟩ := stepN H3 t3 x6 r3 b6 u3 v3
  have s4 : ((H4 : Int) / 8388608).toNat = H4 / 8388608 := by omega
  have z4 : H4 / 8388608 < 256 := by omega
  obtain ⟨t4, q4, u4, v4⟩ := ht4 (H4 / 8388608) z4
  obtain ⟨H5, e5, r5⟩ := stepN H4 t4 x7 r4 b7 u4 v4
  have s5 : ((H5 : Int) / 8388608).toNat = H5 / 8388608 := by omega
  have z5 : H5 / 8388608 < 256 := by omega
  obtain ⟨t5, q5, u5, v5⟩ := ht4 (H5 / 8388608) z5
  obtain ⟨H6, e6, r6⟩ := stepN H5 t5 x8 r5 b8 u5 v5
  have s6 : ((H6 : Int) / 8388608).toNat = H6 / 8388608 := by omega
  have z6 : H6 / 8388608 < 256 := by omega
  obtain ⟨t6, q6, u6, v6⟩ := ht4 (H6 / 8388608) z6
  obtain ⟨H7, e7, r7⟩ := stepN H6 t6 x9 r6 b9 u6 v6
  have s7 : ((H7 : Int) / 8388608).toNat = H7 / 8388608 := by omega
  have z7 : H7 / 8388608 < 256 := by omega
  obtain ⟨t7, q7, u7, v7⟩ := ht4 (H7 / 8388608) z7
  obtain ⟨H8, e8, r8⟩ := stepN H7 t7 x10 r7 b10 u7 v7
  have s8 : ((H8 : Int) / 8388608).toNat = H8 / 8388608 := by omega
  have z8 : H8 / 8388608 < 256 := by omega
  obtain ⟨t8, q8, u8, v8⟩ := ht4 (H8 / 8388608) z8
  obtain ⟨H9, e9, r9⟩ := stepN H8 t8 x11 r8 b11 u8 v8
  have s9 : ((H9 : Int) / 8388608).toNat = H9 / 8388608 := by omega
  have z9 : H9 / 8388608 < 256 := by omega
  obtain ⟨t9, q9, u9, v9⟩ := ht4 (H9 / 8388608) z9
  obtain ⟨H10, e10, r10⟩ := stepN H9 t9 x12 r9 b12 u9 v9
  have s10 : ((H10 : Int) / 8388608).toNat = H10 / 8388608 := by omega
  have z10 : H10 / 8388608 < 256 := by omega
  obtain ⟨t10, q10, u10, v10⟩ := ht4 (H10 / 8388608) z10
  obtain ⟨H11, e11, r11⟩ := stepN H10 t10 x13 r10 b13 u10 v10
  have s11 : ((H11 : Int) / 8388608).toNat = H11 / 8388608 := by omega
  have z11 : H11 / 8388608 < 256 := by omega
  obtain ⟨t11, q11, u11, v11⟩ := ht4 (H11 / 8388608) z11
  obtain ⟨H12, e12, r12⟩ := stepN H11 t11 x14 r11 b14 u11 v11
  have s12 : ((H12 : Int) / 8388608).toNat = H12 / 8388608 := by omega
  have z12 : H12 / 8388608 < 256 := by omega
  obtain ⟨t12, q12, u12, v12⟩ := ht4 (H12 / 8388608) z12
  obtain ⟨H13, e13, r13⟩ := stepN H12 t12 x15 r12 b15 u12 v12
  clear ht4 u0 v0 u1 v1 z1 u2 v2 z2 u3 v3 z3 u4 v4 z4 u5 v5 z5 u6 v6 z6 u7 v7 z7 u8 v8 z8 u9 v9 z9 u10 v10 z10 u11 v11 z11 u12 v12 z12
  go_enter Tryd.func49, Tryd.ntmps49
  go_wp2
  go_quiet (fail)
  go_wp2
  go_quiet (fail)
  go_wp2
  go_quiet (fail)
  go_wp2
  go_quiet (fail)
  go_wp2
  go_quiet (fail)
  go_wp2
  go_quiet (fail)
  go_wp2
  go_quiet (fail)
  go_wp2
  go_quiet (fail)
  go_wp2
  go_quiet (fail)
  go_wp2
  go_quiet (fail)
  go_wp2
  go_quiet (fail)
  go_wp2
  go_quiet (fail)
  go_wp2
  go_quiet (fail)
  go_wp2
  go_ret
  exact ⟨H13, rfl, r13, _, rfl⟩
end Go.Proofs.YtlboochpbplhlaaDoor.HandN
