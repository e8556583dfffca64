/- Three small words that the printed texts use: a look at an operation ahead of a dear step. -/
import Derived.Test.YtgmhhdpggnmipaaWWords
namespace Go.Proofs.YtgmhhdpggnmipaaW.PrintWords
open Go.RowKit
section
variable {P : Program} {ops : Array Oper} {rest : List Oper} {o : Oper} {a : Act} {Q : Exit → Act → World → Prop} {W : World}
theorem gate_callee {f : FuncId} {as : Array Operand} {ts : Array TypeId} (_h : o.op = .call { callee := .value (.func f), args := as, argTypes := ts }) (k : wpList P ops Q (o :: rest) a W) : wpList P ops Q (o :: rest) a W := k
theorem gate_builtin {b : Builtin} {xs : Array Operand} {ts : Array TypeId} (_h : o.op = .call { callee := .builtin b, args := xs, argTypes := ts }) (k : wpList P ops Q (o :: rest) a W) : wpList P ops Q (o :: rest) a W := k
end
end Go.Proofs.YtgmhhdpggnmipaaW.PrintWords
