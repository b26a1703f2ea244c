/-
  FnNextMatchesLayout, walked.
-/
import Derived.Test.Qxb6601535aLaw6a
namespace Go.Proofs.Qxb6601535a
open Go.RowKit Go.Proofs.Qxb6601535a.Be

set_option maxHeartbeats 1000000 in
set_option maxRecDepth 100000 in
theorem bytes15 (x0 x1 : Int) (p j : Bool) (a0 : Option Addr) (n c0 : Nat) (w : World) (hn : n ≤ maxLen) :
    Calls Try.prog 15 #[.int .i64 x0, .int .i64 x1, .bool p, .bool j, .slice a0 n c0] w fun e w' => IsBool e ∧ w' = w := by
  simp only [maxLen] at hn
  go_enter Try.func15, Try.ntmps15
  by_cases h1 : n ≤ 1048576
  · go_wp2
    go_ret
    exact ⟨⟨_, rfl⟩, rfl⟩
  · go_wp2
    go_ret
    exact ⟨⟨_, rfl⟩, rfl⟩

set_option maxHeartbeats 4000000 in
set_option maxRecDepth 100000 in
theorem law6 (k0 k1 : Int) (p j : Bool) (a4 : Option Addr) (n c4 : Nat) (bs : List Int) (w : World) (w0 : (Lit.int .i64 k0).wf = true) (w1 : (Lit.int .i64 k1).wf = true) (h4 : Rd w .u8 a4 n bs) :
    Calls Try.prog 6 #[.int .i64 k0, .int .i64 k1, .bool p, .bool j, .slice a4 n c4] w fun e w' => e = .returned (.bool true) ∧ Below w.heap.size w w' := by
  have hn := h4.max
  have d0 := bounds_i64 w0
  have d1 := bounds_i64 w1
  have hcall := bytes15 k0 k1 p j a4 n c4 w hn
  unfold maxLen at hn
  clear w0 w1
  by_cases t1 : n ≤ 1048576
  case neg =>
    go_enter Try.func6, Try.ntmps6
    go_wp2_with (go_at_call 15; refine hcall.mono ?_; rintro e wq ⟨⟨b, rfl⟩, hwq⟩; subst hwq; cases b)
    all_goals (go_ret; exact ⟨rfl, Below.refl _ _⟩)
  by_cases t4 : 0 ≤ k0
  case neg =>
    go_enter Try.func6, Try.ntmps6
    go_wp2_with (go_at_call 15; refine hcall.mono ?_; rintro e wq ⟨⟨b, rfl⟩, hwq⟩; subst hwq; cases b)
    all_goals (go_ret; exact ⟨rfl, Below.refl _ _⟩)
  by_cases t5 : k0 ≤ 8
  case neg =>
    go_enter Try.func6, Try.ntmps6
    go_wp2_with (go_at_call 15; refine hcall.mono ?_; rintro e wq ⟨⟨b, rfl⟩, hwq⟩; subst hwq; cases b)
    all_goals (go_ret; exact ⟨rfl, Below.refl _ _⟩)
  by_cases t6 : 0 ≤ k1
  case neg =>
    go_enter Try.func6, Try.ntmps6
    go_wp2_with (go_at_call 15; refine hcall.mono ?_; rintro e wq ⟨⟨b, rfl⟩, hwq⟩; subst hwq; cases b)
    all_goals (go_ret; exact ⟨rfl, Below.refl _ _⟩)
  by_cases t7 : k1 ≤ 8
  case neg =>
    go_enter Try.func6, Try.ntmps6
    go_wp2_with (go_at_call 15; refine hcall.mono ?_; rintro e wq ⟨⟨b, rfl⟩, hwq⟩; subst hwq; cases b)
    all_goals (go_ret; exact ⟨rfl, Below.refl _ _⟩)
  by_cases t8 : k0 + k1 ≠ 0
  case neg =>
    have t8' : k0 + k1 = 0 := by omega
    go_enter Try.func6, Try.ntmps6
    go_wp2_with (go_at_call 15; refine hcall.mono ?_; rintro e wq ⟨⟨b, rfl⟩, hwq⟩; subst hwq; cases b)
    all_goals (go_ret; exact ⟨rfl, Below.refl _ _⟩)
  obtain ⟨cs, rfl⟩ : ∃ c : Nat, k0 = c := ⟨k0.toNat, by omega⟩
  obtain ⟨ls, rfl⟩ : ∃ c : Nat, k1 = c := ⟨k1.toNat, by omega⟩
  exact law6a cs ls p j a4 n c4 bs w h4 t1 (by omega) (by omega) (by omega) hcall

end Go.Proofs.Qxb6601535a
