/-
  The row: the laid table, the witness, the law lifted.
-/
import Derived.Test.Qxb6601988aDoorLaw
import Derived.Test.Qxb6601988aDoorOpen
import Derived.LaidMore
import Derived.Stop.Joined
import Derived.Lib.LaidTab
namespace Go.Proofs.Qxb6601988aDoor
open Go.ChangeShapes Go.WideShapes Go.ChangeAt Go.RowKit Go.Deep

theorem own : ownKnob Tryd.prog.godebug = none := by kernel_rfl
theorem laidOut : laidOutB Tryd.prog = true := by kernel_rfl

theorem door_met (os : Os) (args : Array Value) : laidMetH Tryd.prog Rows.fnFormulaWriteDecodesBackRow.laid ((World.doorLaid Tryd.prog 400 os).forCall (fun _ _ => 0) ⟨#[], args, []⟩).memory :=
  laidMetH_of_parts3 (fuel := 8) (laidMet_of_run' 8 (by kernel_rfl) (by kernel_rfl)) (by kernel_rfl) (by kernel_rfl)

theorem tPow : (Tryd.prog.globals[0]?).map (·.type) = some 98 := by kernel_rfl
theorem tab_of {W : World} (s : String) (h : Lib.TabIs Tryd.prog W s .u64 Lib.pow10Tab) (hs : s = Tryd.powName) : Tab W := by
  subst hs
  exact h

/-- What the condition gives the walk. -/
theorem of_laid {W : World} (h : laidMetH Tryd.prog Rows.fnFormulaWriteDecodesBackRow.laid W) : Tab W ∧ 3 ≤ W.heap.size := by
  rw [MakeChecks.laidMetH_plain _ _ _ (by kernel_rfl)] at h
  obtain ⟨ps, ⟨a0, t0, cs0, f0, p0, q0, hg0, ht0, hv0, hd0, ⟨a1, t1, cs1, f1, p1, q1, hg1, ht1, hv1, hd1, ⟨a2, t2, cs2, f2, p2, q2, hg2, ht2, hv2, hd2, _, _⟩, _⟩, _⟩, _, _⟩ := h
  obtain rfl : a1 = 2 := Option.some.inj (hg1.symm.trans (by kernel_rfl))
  obtain rfl : a2 = 0 := Option.some.inj (hg2.symm.trans (by kernel_rfl))
  obtain rfl := Option.some.inj (tPow.symm.trans ht2)
  refine ⟨?_, ?_⟩
  · have hc := Lib.cells_of_tab (k := .u64) (zs := Lib.pow10Tab) Tryd.underlying98 Tryd.underlying91 (by kernel_rfl) (by kernel_rfl) hd2
    exact tab_of _ (hv2.trans (by rw [← hc])) (by kernel_rfl)
  · unfold World.var? at hv1
    simp only [hg1, Option.bind_some] at hv1
    rcases Nat.lt_or_ge 2 W.heap.size with h | h
    · omega
    · rw [Array.getElem?_eq_none h] at hv1
      simp at hv1

end Go.Proofs.Qxb6601988aDoor
