/-
  FnCycleIsFirstShortestLeastCycle: the given statement, proved.
-/
import Derived.Test.Qxb6601988aLaw5
namespace Go.Proofs.Qxb6601988a

theorem firstShortest_proved : Rows.FnCycleIsFirstShortestLeastCycleSaid := said5 walk5

#print axioms firstShortest_proved
end Go.Proofs.Qxb6601988a
