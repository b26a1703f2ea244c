/-
  FnPathBackIsSimpleCycleNoneOnItLonger: the given statement, proved.
-/
import Derived.Test.Qxb6601988aLaw4
namespace Go.Proofs.Qxb6601988a

theorem simpleCycle_proved : Rows.FnPathBackIsSimpleCycleNoneOnItLongerSaid := said4 walk4

#print axioms simpleCycle_proved
end Go.Proofs.Qxb6601988a
