/-
  FnCycleNoSortHasShorterPathBack: the given statement, proved.
-/
import Derived.Test.Qxb6601988aLaw6
namespace Go.Proofs.Qxb6601988a

theorem noShorter_proved : Rows.FnCycleNoSortHasShorterPathBackSaid := said6 walk6

#print axioms noShorter_proved
end Go.Proofs.Qxb6601988a
