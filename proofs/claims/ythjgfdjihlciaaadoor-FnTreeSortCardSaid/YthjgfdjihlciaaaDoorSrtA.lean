/- sort.Sort: what is asked of the three methods; the methods behind the interface: closed facts. -/
import Derived.Test.YthjgfdjihlciaaaDoorQAllx0
import Derived.Sort.AssemblyPlain
set_option linter.unusedVariables false
set_option linter.unusedSimpArgs false
namespace Go.Proofs.YthjgfdjihlciaaaDoor.SrtA
open Go.RowKit Go.Proofs.YthjgfdjihlciaaaDoorW.PrintWords Go.Proofs.YthjgfdjihlciaaaDoorW.PrintLast Go.Proofs.YthjgfdjihlciaaaDoorW.PrintMore Go.Proofs.YthjgfdjihlciaaaDoor.QAll

theorem foundLen : (Tryd.prog.info? 34).map (fun i => (i.methods.find? (fun m => m.name == "Len")).map (fun m => (m.path, m.func))) = some (some (#[], some (60, false))) := by kernel_rfl
theorem foundLess : (Tryd.prog.info? 34).map (fun i => (i.methods.find? (fun m => m.name == "Less")).map (fun m => (m.path, m.func))) = some (some (#[], some (61, false))) := by kernel_rfl
theorem foundSwap : (Tryd.prog.info? 34).map (fun i => (i.methods.find? (fun m => m.name == "Swap")).map (fun m => (m.path, m.func))) = some (some (#[], some (62, false))) := by kernel_rfl
theorem found {nm : String} {f : Nat} (h : (Tryd.prog.info? 34).map (fun i => (i.methods.find? (fun m => m.name == nm)).map (fun m => (m.path, m.func))) = some (some (#[], some (f, false)))) : ∃ i m, Tryd.prog.info? 34 = some i ∧ i.methods.find? (fun m => m.name == nm) = some m ∧ m.path = #[] ∧ m.func = some (f, false) := by
  obtain ⟨i, hi, h1⟩ := Option.map_eq_some_iff.1 h
  obtain ⟨m, hm, h2⟩ := Option.map_eq_some_iff.1 h1
  simp only [Prod.mk.injEq] at h2
  exact ⟨i, m, hi, hm, h2.1, h2.2⟩
theorem nilAhead34 {nm : String} {f : Nat} (h : (Tryd.prog.info? 34).map (fun i => (i.methods.find? (fun m => m.name == nm)).map (fun m => (m.path, m.func))) = some (some (#[], some (f, false)))) (n : Nat) (A : Option Addr) (k c : Nat) (W : World) : (nilAhead (n + 1) 34 (.slice A k c) nm).run Tryd.prog W = .ok (some false) W := by
  obtain ⟨i, m, h1, h2, h3, h4⟩ := found h
  unfold nilAhead
  simp [typeInfo, h1, h2, h3, h4, followBlind, Tryd.underlying34]
theorem method34 {nm : String} {f : Nat} (h : (Tryd.prog.info? 34).map (fun i => (i.methods.find? (fun m => m.name == nm)).map (fun m => (m.path, m.func))) = some (some (#[], some (f, false)))) (n : Nat) (A : Option Addr) (k c : Nat) (W : World) : (method (n + 1) 34 (.slice A k c) nm).run Tryd.prog W = .ok (f, .slice A k c) W := by
  obtain ⟨i, m, h1, h2, h3, h4⟩ := found h
  unfold method
  simp [typeInfo, h1, h2, h3, h4, follow, receiverAt, Place.get, Tryd.underlying34]
theorem w64 {x : Int} (h0 : -1000000 ≤ x) (h1 : x ≤ 1000000) : wrap64 x = x := by unfold wrap64; omega
/-- All blocks but one stay. -/
structure Kept (blk : Nat) (w w' : World) : Prop where
  size : w.heap.size ≤ w'.heap.size
  blk : ∀ k, k < w.heap.size → k ≠ blk → w'.heap[k]? = w.heap[k]?
/-- What a sort asks of the value that it sorts: a state of the world that holds an array, and the three methods. -/
structure Sorter {α : Type} [Inhabited α] (A : Option Addr) (n c : Nat) (lt : α → α → Bool) (blk : Nat) (St : World → Array α → Prop) : Prop where
  small : n ≤ 1000
  size : ∀ {w d}, St w d → d.size = n
  pos : ∀ {w d}, St w d → blk < w.heap.size
  below : ∀ {w w' d}, St w d → Below w.heap.size w w' → St w' d
  put : ∀ {w d} (g j : Nat) (v : Value), St w d → blk < g → St (w.setCell ⟨g, j, none⟩ v) d
  less : ∀ {w d} (i j : Nat), St w d → i < n → j < n → Calls Tryd.prog 61 #[.slice A n c, .int .i64 (i : Int), .int .i64 (j : Int)] w fun e w' => e = .returned (.bool (lt d[i]! d[j]!)) ∧ Below w.heap.size w w'
  swap : ∀ {w d} (i j : Nat), St w d → i < n → j < n → Calls Tryd.prog 62 #[.slice A n c, .int .i64 (i : Int), .int .i64 (j : Int)] w fun e w' => e = .returned (.tuple #[]) ∧ St w' (Sort.swp d i j) ∧ Kept blk w w'
section
variable {α : Type} [Inhabited α] {A : Option Addr} {n c : Nat} {lt : α → α → Bool} {blk : Nat} {St : World → Array α → Prop}
/-- A comparison, with the state kept. -/
theorem Sorter.less' (S : Sorter A n c lt blk St) {w : World} {d : Array α} (i j : Nat) (h : St w d) (hi : i < n) (hj : j < n) : Calls Tryd.prog 61 #[.slice A n c, .int .i64 (i : Int), .int .i64 (j : Int)] w fun e w' => e = .returned (.bool (lt d[i]! d[j]!)) ∧ St w' d ∧ Below w.heap.size w w' :=
  (S.less i j h hi hj).mono fun e w' h' => ⟨h'.1, S.below h h'.2, h'.2⟩
end
end Go.Proofs.YthjgfdjihlciaaaDoor.SrtA
