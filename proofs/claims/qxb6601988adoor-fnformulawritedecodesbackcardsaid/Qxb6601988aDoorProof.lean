/-
  FnFormulaWriteDecodesBack: the tied card, proved.
-/
import Derived.Test.Qxb6601988aDoorRow
namespace Go.Proofs.Qxb6601988aDoor
open Go

theorem writeDecodes_proved : Rows.FnFormulaWriteDecodesBackCardSaid :=
  Claim7.holds_tied_plain_at .later [] [.data, .data, .data] true (true, "fb6f2b674aea569e02090026e2f5ee1ae98273d2f0fc79db7b03e3622b397642") false
    row_holds (fun _ h => by cases h) (by kernel_rfl) (fun _ h => by cases h) fnFormulaWriteDecodesBack_row_tie rfl ⟨rfl, rfl⟩ (by kernel_rfl) rfl
    (fun f fn hf hfn => by
      obtain rfl : f = 4 := Option.some.inj ((show Tryd.prog.funcNamed Rows.fnFormulaWriteDecodesBackRow.func = some 4 by kernel_rfl).symm.trans hf) |>.symm
      obtain rfl : fn = Tryd.f4 := (Option.some.inj (Tryd.func4.symm.trans hfn)).symm
      exact ⟨by kernel_rfl, fun j t ht => by
        rw [Tryd.params4] at ht
        rcases j with _ | _ | j
        · obtain rfl : (26 : TypeId) = t := by simpa using ht
          exact (show Tryd.prog.wantsStandIn 26 = false by kernel_rfl)
        · obtain rfl : (9 : TypeId) = t := by simpa using ht
          exact (show Tryd.prog.wantsStandIn 9 = false by kernel_rfl)
        · simp at ht⟩)
    (by kernel_rfl)

#print axioms writeDecodes_proved
end Go.Proofs.Qxb6601988aDoor
