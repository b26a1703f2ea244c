/-
  FnPathBackIsLeastShortestCycle: the given statement, proved.
-/
import Derived.Test.Qxb6601988aLaw3
namespace Go.Proofs.Qxb6601988a

theorem leastShortest_proved : Rows.FnPathBackIsLeastShortestCycleSaid := said3 walk3

#print axioms leastShortest_proved
end Go.Proofs.Qxb6601988a
