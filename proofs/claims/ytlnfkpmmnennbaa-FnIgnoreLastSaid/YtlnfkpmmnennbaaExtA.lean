/- internal/bytealg.IndexByteString, which has no body: the model's own entry, in the words that the walks use. -/
import Derived.Test.YtlnfkpmmnennbaaQAllx0
import Derived.Lib.Bytealg
set_option linter.unusedVariables false
namespace Go.Proofs.Ytlnfkpmmnennbaa.QAll
open Go.RowKit Go.Proofs.YtlnfkpmmnennbaaW.PrintWords Go.Proofs.YtlnfkpmmnennbaaW.PrintLast

/-- An operation that calls a function of the model's own: it yields its value at once. -/
theorem goesV_ {P : Program} {ops : Array Oper} {Q : Exit → Act → World → Prop} {rest : List Oper} {oi : Oper} {a : Act} {w : World} (N : Option Tmp) (hd : oi.dst = N) (hg : oi.guard = none) {f : FuncId} {os : Array Operand} {ts : Array TypeId} (args : Array Value)
    (hop : oi.op = .call { callee := .value (.func f), args := os, argTypes := ts }) (hargs : os.map a.eval = args) {v : Value} (hr : (callFunc f args).run P w = .ok (.value v) w)
    (h : wpList P ops Q rest (a.put N v) w) : wpList P ops Q (oi :: rest) a w := by
  refine wpList_plain hg fun K hK => ?_
  have hrun : (execOp a.eval oi).run P w = .ok (.value v) w := by
    unfold execOp
    simp [hop, resolve, Deferred.ofValue, invoke, Act.eval, hargs, hr]
  unfold Oper.wp
  rw [hrun, Oper.upon_value]
  subst hd
  exact hK _ _ h

def bytealg_IndexByteString.f (a0 : ByteArray) (a1 : Int) : Option Int := some (Lib.indexByte a0.data.toList a1.toNat.toUInt8)
theorem bytealg_IndexByteString.run (a0 : ByteArray) (a1 r : Int) (w : World) (h : bytealg_IndexByteString.f a0 a1 = some r) :
    (callFunc 49 #[.string a0, .int .u8 a1]).run Try.prog w = .ok (.value (.int .i64 r)) w := by
  obtain rfl := Option.some.inj h
  rw [run_callFunc_extern Try.func49 (by kernel_rfl) (by kernel_rfl) (by kernel_rfl) (e := Extern.BytealgIndexByte.indexByte) (by kernel_rfl), Lib.run_indexByteString]
  rfl

end Go.Proofs.Ytlnfkpmmnennbaa.QAll
