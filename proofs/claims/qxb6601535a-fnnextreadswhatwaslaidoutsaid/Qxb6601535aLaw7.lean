/-
  FnNextReadsWhatWasLaidOut, walked.
-/
import Derived.Test.Qxb6601535aLaw7a
namespace Go.Proofs.Qxb6601535a
open Go.RowKit Go.Proofs.Qxb6601535a.Be

set_option maxHeartbeats 1000000 in
set_option maxRecDepth 100000 in
theorem bytes21 (x0 x1 x4 x5 : Int) (p j : Bool) (a0 : Option Addr) (n c0 : Nat) (a1 : Option Addr) (m c1 : Nat) (w : World) (hn : n ≤ maxLen) (hm : m ≤ maxLen) :
    Calls Try.prog 21 #[.int .i64 x0, .int .i64 x1, .bool p, .bool j, .int .i64 x4, .int .u64 x5, .slice a0 n c0, .slice a1 m c1] w fun e w' => IsBool e ∧ w' = w := by
  simp only [maxLen] at hn hm
  go_enter Try.func21, Try.ntmps21
  by_cases h1 : n ≤ 1048576
  · by_cases h2 : m ≤ 1048576
    · by_cases h3 : n + m ≤ 1048576
      · go_wp2
        go_ret
        exact ⟨⟨_, rfl⟩, rfl⟩
      · go_wp2
        go_ret
        exact ⟨⟨_, rfl⟩, rfl⟩
    · go_wp2
      go_ret
      exact ⟨⟨_, rfl⟩, rfl⟩
  · go_wp2
    go_ret
    exact ⟨⟨_, rfl⟩, rfl⟩

set_option maxHeartbeats 1000000 in
set_option maxRecDepth 100000 in
theorem bytes15 (x0 x1 : Int) (p j : Bool) (a0 : Option Addr) (n c0 : Nat) (w : World) (hn : n ≤ maxLen) :
    Calls Try.prog 15 #[.int .i64 x0, .int .i64 x1, .bool p, .bool j, .slice a0 n c0] w fun e w' => IsBool e ∧ w' = w := by
  simp only [maxLen] at hn
  go_enter Try.func15, Try.ntmps15
  by_cases h1 : n ≤ 1048576
  · go_wp2
    go_ret
    exact ⟨⟨_, rfl⟩, rfl⟩
  · go_wp2
    go_ret
    exact ⟨⟨_, rfl⟩, rfl⟩

set_option maxHeartbeats 4000000 in
set_option maxRecDepth 100000 in
theorem law7 (k0 k1 : Int) (p j : Bool) (k4 k5 : Int) (a6 : Option Addr) (n c6 : Nat) (ps : List Int) (a7 : Option Addr) (m c7 : Nat) (rs : List Int) (w : World) (w0 : (Lit.int .i64 k0).wf = true) (w1 : (Lit.int .i64 k1).wf = true) (w4 : (Lit.int .i64 k4).wf = true) (w5 : (Lit.int .u64 k5).wf = true) (h6 : Rd w .u8 a6 n ps) (h7 : Rd w .u8 a7 m rs) :
    Calls Try.prog 7 #[.int .i64 k0, .int .i64 k1, .bool p, .bool j, .int .i64 k4, .int .u64 k5, .slice a6 n c6, .slice a7 m c7] w fun e w' => e = .returned (.bool true) ∧ Below w.heap.size w w' := by
  have hn := h6.max
  have hm := h7.max
  have d0 := bounds_i64 w0
  have d1 := bounds_i64 w1
  have d4 := bounds_i64 w4
  have d5 := bounds_u64 w5
  have hcall := bytes21 k0 k1 k4 k5 p j a6 n c6 a7 m c7 w hn hm
  unfold maxLen at hn hm
  clear w0 w1 w4 w5
  by_cases t1 : n ≤ 1048576
  case neg =>
    go_enter Try.func7, Try.ntmps7
    go_wp2_with (go_at_call 21; refine hcall.mono ?_; rintro e wq ⟨⟨b, rfl⟩, hwq⟩; subst hwq; cases b)
    all_goals (go_ret; exact ⟨rfl, Below.refl _ _⟩)
  by_cases t2 : m ≤ 1048576
  case neg =>
    go_enter Try.func7, Try.ntmps7
    go_wp2_with (go_at_call 21; refine hcall.mono ?_; rintro e wq ⟨⟨b, rfl⟩, hwq⟩; subst hwq; cases b)
    all_goals (go_ret; exact ⟨rfl, Below.refl _ _⟩)
  by_cases t3 : n + m ≤ 1048576
  case neg =>
    go_enter Try.func7, Try.ntmps7
    go_wp2_with (go_at_call 21; refine hcall.mono ?_; rintro e wq ⟨⟨b, rfl⟩, hwq⟩; subst hwq; cases b)
    all_goals (go_ret; exact ⟨rfl, Below.refl _ _⟩)
  by_cases t4 : 0 ≤ k0
  case neg =>
    go_enter Try.func7, Try.ntmps7
    go_wp2_with (go_at_call 21; refine hcall.mono ?_; rintro e wq ⟨⟨b, rfl⟩, hwq⟩; subst hwq; cases b)
    all_goals (go_ret; exact ⟨rfl, Below.refl _ _⟩)
  by_cases t5 : k0 ≤ 8
  case neg =>
    go_enter Try.func7, Try.ntmps7
    go_wp2_with (go_at_call 21; refine hcall.mono ?_; rintro e wq ⟨⟨b, rfl⟩, hwq⟩; subst hwq; cases b)
    all_goals (go_ret; exact ⟨rfl, Below.refl _ _⟩)
  by_cases t6 : 0 ≤ k1
  case neg =>
    go_enter Try.func7, Try.ntmps7
    go_wp2_with (go_at_call 21; refine hcall.mono ?_; rintro e wq ⟨⟨b, rfl⟩, hwq⟩; subst hwq; cases b)
    all_goals (go_ret; exact ⟨rfl, Below.refl _ _⟩)
  by_cases t7 : k1 ≤ 8
  case neg =>
    go_enter Try.func7, Try.ntmps7
    go_wp2_with (go_at_call 21; refine hcall.mono ?_; rintro e wq ⟨⟨b, rfl⟩, hwq⟩; subst hwq; cases b)
    all_goals (go_ret; exact ⟨rfl, Below.refl _ _⟩)
  by_cases t8 : k0 + k1 ≠ 0
  case neg =>
    have t8' : k0 + k1 = 0 := by omega
    go_enter Try.func7, Try.ntmps7
    go_wp2_with (go_at_call 21; refine hcall.mono ?_; rintro e wq ⟨⟨b, rfl⟩, hwq⟩; subst hwq; cases b)
    all_goals (go_ret; exact ⟨rfl, Below.refl _ _⟩)
  by_cases t9 : 0 ≤ k4
  case neg =>
    go_enter Try.func7, Try.ntmps7
    go_wp2_with (go_at_call 21; refine hcall.mono ?_; rintro e wq ⟨⟨b, rfl⟩, hwq⟩; subst hwq; cases b)
    all_goals (go_ret; exact ⟨rfl, Below.refl _ _⟩)
  by_cases t10 : k4 ≤ 65536
  case neg =>
    go_enter Try.func7, Try.ntmps7
    go_wp2_with (go_at_call 21; refine hcall.mono ?_; rintro e wq ⟨⟨b, rfl⟩, hwq⟩; subst hwq; cases b)
    all_goals (go_ret; exact ⟨rfl, Below.refl _ _⟩)
  obtain ⟨cs, rfl⟩ : ∃ c : Nat, k0 = c := ⟨k0.toNat, by omega⟩
  obtain ⟨ls, rfl⟩ : ∃ c : Nat, k1 = c := ⟨k1.toNat, by omega⟩
  obtain ⟨pd, rfl⟩ : ∃ c : Nat, k4 = c := ⟨k4.toNat, by omega⟩
  obtain ⟨cd, rfl⟩ : ∃ c : Nat, k5 = c := ⟨k5.toNat, by omega⟩
  by_cases t11 : p = false → pd = 0
  case neg =>
    obtain ⟨rfl, t12⟩ : p = false ∧ pd ≠ 0 := by
      cases p with
      | true => exact absurd (fun h => by cases h) t11
      | false => exact ⟨rfl, fun h => t11 (fun _ => h)⟩
    have t12' : ((pd : Int) != 0) = true := by simpa using t12
    clear t11
    go_enter Try.func7, Try.ntmps7
    go_wp2_with (go_at_call 21; refine hcall.mono ?_; rintro e wq ⟨⟨b, rfl⟩, hwq⟩; subst hwq; cases b)
    all_goals (go_ret; exact ⟨rfl, Below.refl _ _⟩)
  exact law7a cs ls pd cd p j a6 n c6 ps a7 m c7 rs w h6 h7 t1 t2 t3 (by omega) (by omega) (by omega) (by omega) (by omega) t11 hcall

end Go.Proofs.Qxb6601535a
