/- laws.cfGets, walked. -/
import Derived.Test.YtacndeejapfkiaaDoorWalkC
set_option linter.unusedVariables false
set_option linter.unusedSimpArgs false
namespace Go.Proofs.YtacndeejapfkiaaDoor.WalkG
open Go.RowKit Go.Proofs.YtacndeejapfkiaaDoorW.PrintWords Go.Proofs.YtacndeejapfkiaaDoorW.PrintLast Go.Proofs.YtacndeejapfkiaaDoorW.PrintMore Go.Proofs.YtacndeejapfkiaaDoor.QAll Txt Ptr SepK HandA HandB HandC HandD HandE HandF HandG HandH PureS PureT WalkC

/-- A literal of one element. -/
theorem R_one {α : Type} {d : Kd α} {e : Nat} {W : World} {base : Nat} {x : α} {cells : Array Value} (hM : d.M W base (fun _ => True) x cells.toList) (hlen : cells.size = d.sz) (hb : base ≤ W.heap.size) :
    d.R e (W.alloc (.cells cells e)) base (fun _ => True) (.slice (some ⟨W.heap.size, 0, none⟩) 1 1) [x] := by
  refine ⟨fun _ _ => trivial, cells.toList, ?_, ?_⟩
  · have h2 := World.ownsRow_lit (base := base) (e := e) (size := d.sz) W cells 1 hb (by decide) (by simpa using hlen)
    simpa using h2
  · have hr : Reps (d.M W base (fun _ => True)) d.sz [x] cells.toList := by
      have := (Reps.none (d.M W base (fun _ => True)) d.sz).snoc (p := x) (c := cells.toList) hM (by simpa using hlen)
      simpa using this
    refine hr.imp_ (fun p c hp => d.M_mono (fun k hk => ⟨trivial, fun he => ?_⟩) (Kd.M_below (d.M_bound hp) (below_alloc (Below.refl _ _) _)))
    have h3 : k = W.heap.size := by simpa [Value.ownBlock] using he
    have := hk.2.2.1
    omega
abbrev zA : ByteArray := ⟨#[97]⟩
abbrev zB : ByteArray := ⟨#[98]⟩
abbrev zX : ByteArray := ⟨#[120]⟩
def litS : S36 := ⟨zX, [⟨zA, zB⟩], []⟩
theorem lit_C (W : World) : Kd.C k36 ((W.alloc (.cells #[.string zA, .string zB] 42)).alloc (.cells #[.string zX, .slice (some ⟨W.heap.size, 0, none⟩) 1 1, .slice none 0 0] 36)) (some ⟨W.heap.size + 1, 0, none⟩) 1 [litS] := by
  have h1 : k42.R 42 (W.alloc (.cells #[.string zA, .string zB] 42)) 0 (fun _ => True) (.slice (some ⟨W.heap.size, 0, none⟩) 1 1) [⟨zA, zB⟩] := R_one (k42_mkM W 0 _ ⟨zA, zB⟩) rfl (Nat.zero_le _)
  have h2 := k36_mkM (W.alloc (.cells #[.string zA, .string zB] 42)) 0 (fun _ => True) litS h1 (v2 := .slice none 0 0) (Kd.R_nil _ _ _ _ _)
  have h3 := R_one (d := k36) (e := 36) (W := W.alloc (.cells #[.string zA, .string zB] 42)) (base := 0) (x := litS) (cells := #[.string zX, .slice (some ⟨W.heap.size, 0, none⟩) 1 1, .slice none 0 0]) h2 rfl (Nat.zero_le _)
  have e : (W.alloc (.cells #[.string zA, .string zB] 42)).heap.size = W.heap.size + 1 := Array.size_push _
  rw [e] at h3
  exact (Kd.R_reads' h3).2.2
theorem wordLit (c : UInt8) (h : Sm c) : Word ⟨#[c]⟩ := ⟨(by show (1 : Nat) ≤ 1000; decide), (by show (1 : Nat) ≠ 0; decide), fun d hd => by
  have e : d = c := by
    rw [Lib.toList_data] at hd
    simpa using hd
  exact e ▸ h⟩
theorem lit_opt {us : ByteArray} {os : List S42} (h : OptIs [litS] zX us ⟨#[]⟩ os) : os = [⟨zA, zB⟩] := by
  obtain ⟨x, hx, h⟩ := h
  have hx2 : x = litS := by
    rcases hx with ⟨i, hi, _⟩ | ⟨_, h⟩
    · cases i with
      | zero => exact (Option.some.inj hi).symm
      | succ i => cases hi
    · exact absurd rfl (h litS List.mem_cons_self)
  subst hx2
  rcases h with ⟨_, rfl⟩ | ⟨h, _⟩
  · rfl
  · exact absurd (by rw [Lib.toList_data]) h
theorem lastLit : lastOf [⟨zA, zB⟩] zA = zB := rfl
/-- The option a of x, of a list made for it. -/
theorem litCall (W : World) : Calls Tryd.prog 17 #[.slice (some ⟨W.heap.size + 1, 0, none⟩) 1 1, .string zX, .string ⟨#[]⟩, .string zA] ((W.alloc (.cells #[.string zA, .string zB] 42)).alloc (.cells #[.string zX, .slice (some ⟨W.heap.size, 0, none⟩) 1 1, .slice none 0 0] 36)) fun e w' => ∃ v, e = .returned (.tuple #[.string zB, v]) ∧ Below W.heap.size W w' := by
  have hA : Word zA := wordLit 97 ⟨by decide, by decide⟩
  have hX : Word zX := wordLit 120 ⟨by decide, by decide⟩
  have h := getOption (some ⟨W.heap.size + 1, 0, none⟩) 1 [litS] zX zX ⟨#[]⟩ zA zA _ (lit_C W) (Nat.le_refl _) ⟨by decide, fun s hs => by rw [List.mem_singleton.1 hs]; decide, fun s hs => by rw [List.mem_singleton.1 hs]; decide, fun s hs q hq => by rw [List.mem_singleton.1 hs] at hq; cases hq⟩
    ⟨fun x hx => by rw [List.mem_singleton.1 hx]; exact hX, fun x hx o ho => by
      rw [List.mem_singleton.1 hx] at ho
      rw [List.mem_singleton.1 ho]
      exact hA, fun x hx p hp => by rw [List.mem_singleton.1 hx] at hp; cases hp⟩ hX (FoldL.refl _) hA (FoldL.refl _)
  refine h.mono ?_
  rintro e w' ⟨os, v, rfl, ho, _, hb⟩
  refine ⟨v, by rw [lit_opt ho, lastLit], ?_⟩
  have h1 := below_alloc (below_alloc (Below.refl W.heap.size W) (.cells #[.string zA, .string zB] 42)) (.cells #[.string zX, .slice (some ⟨W.heap.size, 0, none⟩) 1 1, .slice none 0 0] 36)
  exact h1.trans (hb.mono h1.size)

/-! ### cfGets -/
theorem last_at (l : List ByteArray) (h : l ≠ []) : (l[l.length - 1]?) = some (l.getLast?.getD ⟨#[]⟩) := by
  rw [List.getLast?_eq_getElem?]
  have : l.length - 1 < l.length := by
    have : l.length ≠ 0 := fun e => h (List.eq_nil_of_length_eq_zero e)
    omega
  rw [List.getElem?_eq_getElem this]
  rfl
theorem size_alloc' (W : World) (o : Obj) : (W.alloc o).heap.size = W.heap.size + 1 := Array.size_push _

set_option maxHeartbeats 8000000 in
set_option maxRecDepth 100000 in
theorem cfGets (A : Option Addr) (c : Nat) (l : List S36) (sec us sub key uk : ByteArray) (Aw : Option Addr) (cw : Nat) (want : List ByteArray) (w : World) (hC : Kd.C k36 w A l.length l) (hc : l.length ≤ c) (hz : Sized l) (hn : Named l) (hus : Word us) (has : FoldA sec us) (huk : Word uk) (hak : FoldA key uk)
    (hW : Kd.C Kd.string w Aw want.length want) (hcw : want.length ≤ cw) (hwl : want.length ≤ 1001) (hv : ∀ os, OptIs l us sec sub os → vals os uk = want) :
    Calls Tryd.prog 7 #[.slice A l.length c, .string sec, .string sub, .string key, .slice Aw want.length cw] w fun e w' => e = .returned (.bool true) ∧ Below w.heap.size w w' := by
  have HG := Aside0.mk (getOption A c l sec us sub key uk w hC hc hz hn hus has huk hak)
  have HV := Aside0.mk hv
  obtain ⟨ks, hks⟩ := sameV want (by omega)
  have HS := Aside0.mk (fun (W : World) (B : Option Addr) (b : Nat) (hb : want.length ≤ b) (h : Kd.C Kd.string W B want.length want) (hw : Below w.heap.size w W) => spec_SameValues.calls ks B b want Aw cw want true W h hb (Kd.C_below hW hw) hcw hks)
  clear hC hc hz hn hus has huk hak hks hv
  have hlen : (want.length : Int) ≤ 1001 := by omega
  have A17 : True := trivial
  by_cases hwn : want = []
  · have hl0 : want.length = 0 := by rw [hwn]; rfl
    have HL : Aside0 (want.getLast?.getD ⟨#[]⟩ = (⟨#[]⟩ : ByteArray)) := ⟨by rw [hwn]; rfl⟩
    have hgt : ¬ ((want.length : Int) > 0) := by omega
    have HW := Aside0.mk hW
    clear hwn hl0 hW
    go_enter Tryd.func7, Tryd.ntmps7
    go_wp2_with (first
      | (go_at_call 17; (with_reducible refine HG.out.mono ?_); rintro e w1 ⟨os, v, rfl, ho, hr, hb⟩
         have hvv := HV.out os ho
         have hlo : lastOf os uk = want.getLast?.getD ⟨#[]⟩ := by unfold lastOf; rw [hvv]
         rw [hvv] at hr
         obtain ⟨B1, b1, rfl, hb1, hC1⟩ := Kd.R_reads hr
         have HC1 := Aside0.mk hC1
         have HB1 := Aside0.mk hb
         have HN1 := Aside0.mk hb1
         have hle : (lastOf os uk).toList.isEmpty = true := by rw [hlo.trans HL.out, Lib.toList_data]; rfl
         have HX := Aside0.mk (litCall w1)
         clear hvv hlo hr hC1 hb hb1 ho)
      | (go_at_call 17; (with_reducible refine HX.out.mono ?_); rintro e w2 ⟨v2, rfl, hb⟩; have HB2 := Aside0.mk hb; clear hb)
      | (go_at_call 18; (with_reducible refine (HS.out _ B1 b1 HN1.out (Kd.C_below HC1.out HB2.out) (HB1.out.trans (HB2.out.mono HB1.out.size))).mono ?_); rintro e w3 ⟨rfl, hd⟩; have HB3 := Aside0.mk (Drawn0.below hd); clear hd))
    go_ret
    exact ⟨rfl, (HB1.out.trans (HB2.out.mono HB1.out.size)).trans (HB3.out.mono (HB1.out.trans (HB2.out.mono HB1.out.size)).size)⟩
  · have hgt : (want.length : Int) > 0 := by
      have : want.length ≠ 0 := fun e => hwn (List.eq_nil_of_length_eq_zero e)
      omega
    obtain ⟨m, hm⟩ : ∃ m, want.length = m + 1 := ⟨want.length - 1, by omega⟩
    have hl := last_at want hwn
    have hm0 : want.length - 1 = m := by omega
    rw [hm0] at hl
    have hm1 : (m : Int) < (want.length : Int) := by omega
    have hwz : wrap64 ((want.length : Int) - 1) = (m : Int) := by unfold wrap64; omega
    obtain ⟨ad, cs, rfl, hcl, hK, hr⟩ := Kd.C_get hW (⟨#[]⟩ : ByteArray) (m : Int) (by omega) hm1
    rw [Int.toNat_natCast] at hK hr
    rw [List.getD_eq_getElem?_getD, hl] at hK
    generalize hla : want.getLast?.getD (⟨#[]⟩ : ByteArray) = la at hK
    have hK' : cs = [.string la] := hK
    subst hK'
    have HL : Aside0 (want.getLast?.getD (⟨#[]⟩ : ByteArray) = la) := ⟨hla⟩
    have HLA : Aside0 (w.cell? (ad.add (want.length - 1)) = some (.string la)) := ⟨by have := hr 0 _ rfl; rw [hm0]; simpa [Kd.string, Kd.scalar] using this⟩
    clear hwn hm hl hm0 hwz hm1 hW hr hK hla hcl
    go_enter Tryd.func7, Tryd.ntmps7
    go_wp2_with (first
      | (go_at_call 17; (with_reducible refine HG.out.mono ?_); rintro e w1 ⟨os, v, rfl, ho, hr, hb⟩
         have hvv := HV.out os ho
         have hlo : lastOf os uk = want.getLast?.getD ⟨#[]⟩ := by unfold lastOf; rw [hvv]
         rw [hvv] at hr
         obtain ⟨B1, b1, rfl, hb1, hC1⟩ := Kd.R_reads hr
         have HC1 := Aside0.mk hC1
         have HB1 := Aside0.mk hb
         have HN1 := Aside0.mk hb1
         have hle : ((lastOf os uk).toList == la.toList) = true := by rw [hlo, HL.out]; exact beq_self_eq_true _
         have hcl1 : w1.cell? (ad.add (want.length - 1)) = some (.string la) := pw_cell_below hb HLA.out
         have HX := Aside0.mk (litCall w1)
         clear hvv hlo hr hC1 hb hb1 ho)
      | (go_at_call 17; (with_reducible refine HX.out.mono ?_); rintro e w2 ⟨v2, rfl, hb⟩; have HB2 := Aside0.mk hb; clear hb)
      | (go_at_call 18; (with_reducible refine (HS.out _ B1 b1 HN1.out (Kd.C_below HC1.out HB2.out) (HB1.out.trans (HB2.out.mono HB1.out.size))).mono ?_); rintro e w3 ⟨rfl, hd⟩; have HB3 := Aside0.mk (Drawn0.below hd); clear hd))
    go_ret
    exact ⟨rfl, (HB1.out.trans (HB2.out.mono HB1.out.size)).trans (HB3.out.mono (HB1.out.trans (HB2.out.mono HB1.out.size)).size)⟩
#print axioms cfGets
end Go.Proofs.YtacndeejapfkiaaDoor.WalkG
