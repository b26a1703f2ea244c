/-
  The bounds on lengths (zzBytes_.., zzGraphBytesFitHB1): each returns SOME bool and turns nothing.
-/
import Derived.Test.Qxb6601988aParts
namespace Go.Proofs.Qxb6601988a
open Go.RowKit

set_option maxHeartbeats 400000 in
theorem bytes7 (a : Option Addr) (n c : Nat) (a' : Option Addr) (n' c' : Nat) (st : Int) (w : World) (hn : n ≤ maxLen) (hn' : n' ≤ maxLen)
    (hs : ∀ k, k < n → ∃ b off s, a = some ⟨b, off, none⟩ ∧ w.cell? ⟨b, off + k * 2, none⟩ = some (.string s) ∧ s.size ≤ maxLen)
    (hs' : ∀ k, k < n' → ∃ b off s, a' = some ⟨b, off, none⟩ ∧ w.cell? ⟨b, off + k * 3 + 2, none⟩ = some (.string s) ∧ s.size ≤ maxLen) :
    Calls Try.prog 7 #[.slice a n c, .slice a' n' c', .int .i64 st] w fun e w' => IsBool e ∧ w = w' := by
  unfold maxLen at *
  go_enter Try.func7, Try.ntmps7
  go_wp2_with fail
  all_goals try (go_ret; exact ⟨IsBool.mk _, rfl⟩)
  go_loop [7, 8] (fun z i => ∃ k : Nat, k ≤ n ∧ i = .int .i64 k ∧ ∃ zz : Int, z = .int .i64 zz) (fun _ i => n - (intOf i).toNat)
  case atStart => exact ⟨0, Nat.zero_le _, rfl, _, rfl⟩
  case round =>
    obtain ⟨k, hk, rfl, zz, rfl⟩ := hrel
    by_cases hlt : k < n
    · obtain ⟨b, off, s, rfl, hc, hsz⟩ := hs k hlt
      clear hs hs'
      go_wp2
      all_goals first
        | (go_ret; exact ⟨IsBool.mk _, rfl⟩)
        | (go_round
           case rel => exact ⟨k + 1, by omega, by go_num, _, rfl⟩
           case measure => simp [intOf]; omega)
    · clear hs
      go_wp2_with fail
      all_goals try (go_ret; exact ⟨IsBool.mk _, rfl⟩)
      go_loop [7, 9] (fun z i => ∃ k : Nat, k ≤ n' ∧ i = .int .i64 k ∧ ∃ zz : Int, z = .int .i64 zz) (fun _ i => n' - (intOf i).toNat)
      case atStart => exact ⟨0, Nat.zero_le _, rfl, _, rfl⟩
      case round =>
        obtain ⟨k', hk', rfl, zz', rfl⟩ := hrel
        by_cases hlt' : k' < n'
        · obtain ⟨b, off, s, rfl, hc, hsz⟩ := hs' k' hlt'
          clear hs'
          go_wp2
          all_goals first
            | (go_ret; exact ⟨IsBool.mk _, rfl⟩)
            | (go_round
               case rel => exact ⟨k' + 1, by omega, by go_num, _, rfl⟩
               case measure => simp [intOf]; omega)
        · go_wp2
          go_ret
          exact ⟨IsBool.mk _, rfl⟩

set_option maxHeartbeats 400000 in
theorem bytes17 (a : Option Addr) (n c : Nat) (a' : Option Addr) (n' c' : Nat) (st : Int) (w : World) (hn : n ≤ maxLen) (hn' : n' ≤ maxLen)
    (hs : ∀ k, k < n → ∃ b off s, a = some ⟨b, off, none⟩ ∧ w.cell? ⟨b, off + k * 2, none⟩ = some (.string s) ∧ s.size ≤ maxLen)
    (hs' : ∀ k, k < n' → ∃ b off s, a' = some ⟨b, off, none⟩ ∧ w.cell? ⟨b, off + k * 3 + 2, none⟩ = some (.string s) ∧ s.size ≤ maxLen) :
    Calls Try.prog 17 #[.slice a n c, .slice a' n' c', .int .i64 st] w fun e w' => IsBool e ∧ w = w' := by
  unfold maxLen at *
  go_enter Try.func17, Try.ntmps17
  go_wp2_with fail
  all_goals try (go_ret; exact ⟨IsBool.mk _, rfl⟩)
  go_loop [7, 8] (fun z i => ∃ k : Nat, k ≤ n ∧ i = .int .i64 k ∧ ∃ zz : Int, z = .int .i64 zz) (fun _ i => n - (intOf i).toNat)
  case atStart => exact ⟨0, Nat.zero_le _, rfl, _, rfl⟩
  case round =>
    obtain ⟨k, hk, rfl, zz, rfl⟩ := hrel
    by_cases hlt : k < n
    · obtain ⟨b, off, s, rfl, hc, hsz⟩ := hs k hlt
      clear hs hs'
      go_wp2
      all_goals first
        | (go_ret; exact ⟨IsBool.mk _, rfl⟩)
        | (go_round
           case rel => exact ⟨k + 1, by omega, by go_num, _, rfl⟩
           case measure => simp [intOf]; omega)
    · clear hs
      go_wp2_with fail
      all_goals try (go_ret; exact ⟨IsBool.mk _, rfl⟩)
      go_loop [7, 9] (fun z i => ∃ k : Nat, k ≤ n' ∧ i = .int .i64 k ∧ ∃ zz : Int, z = .int .i64 zz) (fun _ i => n' - (intOf i).toNat)
      case atStart => exact ⟨0, Nat.zero_le _, rfl, _, rfl⟩
      case round =>
        obtain ⟨k', hk', rfl, zz', rfl⟩ := hrel
        by_cases hlt' : k' < n'
        · obtain ⟨b, off, s, rfl, hc, hsz⟩ := hs' k' hlt'
          clear hs'
          go_wp2
          all_goals first
            | (go_ret; exact ⟨IsBool.mk _, rfl⟩)
            | (go_round
               case rel => exact ⟨k' + 1, by omega, by go_num, _, rfl⟩
               case measure => simp [intOf]; omega)
        · go_wp2
          go_ret
          exact ⟨IsBool.mk _, rfl⟩

set_option maxHeartbeats 400000 in
theorem bytes18 (a : Option Addr) (n c : Nat) (a' : Option Addr) (n' c' : Nat) (w : World) (hn : n ≤ maxLen) (hn' : n' ≤ maxLen)
    (hs : ∀ k, k < n → ∃ b off s, a = some ⟨b, off, none⟩ ∧ w.cell? ⟨b, off + k * 2, none⟩ = some (.string s) ∧ s.size ≤ maxLen)
    (hs' : ∀ k, k < n' → ∃ b off s, a' = some ⟨b, off, none⟩ ∧ w.cell? ⟨b, off + k * 3 + 2, none⟩ = some (.string s) ∧ s.size ≤ maxLen) :
    Calls Try.prog 18 #[.slice a n c, .slice a' n' c'] w fun e w' => IsBool e ∧ w = w' := by
  unfold maxLen at *
  go_enter Try.func18, Try.ntmps18
  go_wp2_with fail
  all_goals try (go_ret; exact ⟨IsBool.mk _, rfl⟩)
  go_loop [5, 6] (fun z i => ∃ k : Nat, k ≤ n ∧ i = .int .i64 k ∧ ∃ zz : Int, z = .int .i64 zz) (fun _ i => n - (intOf i).toNat)
  case atStart => exact ⟨0, Nat.zero_le _, rfl, _, rfl⟩
  case round =>
    obtain ⟨k, hk, rfl, zz, rfl⟩ := hrel
    by_cases hlt : k < n
    · obtain ⟨b, off, s, rfl, hc, hsz⟩ := hs k hlt
      clear hs hs'
      go_wp2
      all_goals first
        | (go_ret; exact ⟨IsBool.mk _, rfl⟩)
        | (go_round
           case rel => exact ⟨k + 1, by omega, by go_num, _, rfl⟩
           case measure => simp [intOf]; omega)
    · clear hs
      go_wp2_with fail
      all_goals try (go_ret; exact ⟨IsBool.mk _, rfl⟩)
      go_loop [5, 7] (fun z i => ∃ k : Nat, k ≤ n' ∧ i = .int .i64 k ∧ ∃ zz : Int, z = .int .i64 zz) (fun _ i => n' - (intOf i).toNat)
      case atStart => exact ⟨0, Nat.zero_le _, rfl, _, rfl⟩
      case round =>
        obtain ⟨k', hk', rfl, zz', rfl⟩ := hrel
        by_cases hlt' : k' < n'
        · obtain ⟨b, off, s, rfl, hc, hsz⟩ := hs' k' hlt'
          clear hs'
          go_wp2
          all_goals first
            | (go_ret; exact ⟨IsBool.mk _, rfl⟩)
            | (go_round
               case rel => exact ⟨k' + 1, by omega, by go_num, _, rfl⟩
               case measure => simp [intOf]; omega)
        · go_wp2
          go_ret
          exact ⟨IsBool.mk _, rfl⟩

set_option maxHeartbeats 400000 in
theorem bytes22 (a : Option Addr) (n c : Nat) (a' : Option Addr) (n' c' : Nat) (w : World) (hn : n ≤ maxLen) (hn' : n' ≤ maxLen)
    (hs : ∀ k, k < n → ∃ b off s, a = some ⟨b, off, none⟩ ∧ w.cell? ⟨b, off + k * 2, none⟩ = some (.string s) ∧ s.size ≤ maxLen)
    (hs' : ∀ k, k < n' → ∃ b off s, a' = some ⟨b, off, none⟩ ∧ w.cell? ⟨b, off + k * 3 + 2, none⟩ = some (.string s) ∧ s.size ≤ maxLen) :
    Calls Try.prog 22 #[.slice a n c, .slice a' n' c'] w fun e w' => IsBool e ∧ w = w' := by
  unfold maxLen at *
  go_enter Try.func22, Try.ntmps22
  go_wp2_with fail
  all_goals try (go_ret; exact ⟨IsBool.mk _, rfl⟩)
  go_loop [5, 6] (fun z i => ∃ k : Nat, k ≤ n ∧ i = .int .i64 k ∧ ∃ zz : Int, z = .int .i64 zz) (fun _ i => n - (intOf i).toNat)
  case atStart => exact ⟨0, Nat.zero_le _, rfl, _, rfl⟩
  case round =>
    obtain ⟨k, hk, rfl, zz, rfl⟩ := hrel
    by_cases hlt : k < n
    · obtain ⟨b, off, s, rfl, hc, hsz⟩ := hs k hlt
      clear hs hs'
      go_wp2
      all_goals first
        | (go_ret; exact ⟨IsBool.mk _, rfl⟩)
        | (go_round
           case rel => exact ⟨k + 1, by omega, by go_num, _, rfl⟩
           case measure => simp [intOf]; omega)
    · clear hs
      go_wp2_with fail
      all_goals try (go_ret; exact ⟨IsBool.mk _, rfl⟩)
      go_loop [5, 7] (fun z i => ∃ k : Nat, k ≤ n' ∧ i = .int .i64 k ∧ ∃ zz : Int, z = .int .i64 zz) (fun _ i => n' - (intOf i).toNat)
      case atStart => exact ⟨0, Nat.zero_le _, rfl, _, rfl⟩
      case round =>
        obtain ⟨k', hk', rfl, zz', rfl⟩ := hrel
        by_cases hlt' : k' < n'
        · obtain ⟨b, off, s, rfl, hc, hsz⟩ := hs' k' hlt'
          clear hs'
          go_wp2
          all_goals first
            | (go_ret; exact ⟨IsBool.mk _, rfl⟩)
            | (go_round
               case rel => exact ⟨k' + 1, by omega, by go_num, _, rfl⟩
               case measure => simp [intOf]; omega)
        · go_wp2
          go_ret
          exact ⟨IsBool.mk _, rfl⟩

set_option maxHeartbeats 400000 in
theorem bytes8 (a : Option Addr) (n c : Nat) (a' : Option Addr) (n' c' : Nat) (w : World) (hn : n ≤ maxLen) (hn' : n' ≤ maxLen)
    (hs : ∀ k, k < n → ∃ b off s, a = some ⟨b, off, none⟩ ∧ w.cell? ⟨b, off + k * 2, none⟩ = some (.string s) ∧ s.size ≤ maxLen)
    (hs' : ∀ k, k < n' → ∃ b off s, a' = some ⟨b, off, none⟩ ∧ w.cell? ⟨b, off + k * 3 + 2, none⟩ = some (.string s) ∧ s.size ≤ maxLen) :
    Calls Try.prog 8 #[.slice a n c, .slice a' n' c'] w fun e w' => IsBool e ∧ w = w' := by
  unfold maxLen at *
  go_enter Try.func8, Try.ntmps8
  go_wp2_with fail
  all_goals try (go_ret; exact ⟨IsBool.mk _, rfl⟩)
  go_loop [5, 6] (fun z i => ∃ k : Nat, k ≤ n ∧ i = .int .i64 k ∧ ∃ zz : Int, z = .int .i64 zz) (fun _ i => n - (intOf i).toNat)
  case atStart => exact ⟨0, Nat.zero_le _, rfl, _, rfl⟩
  case round =>
    obtain ⟨k, hk, rfl, zz, rfl⟩ := hrel
    by_cases hlt : k < n
    · obtain ⟨b, off, s, rfl, hc, hsz⟩ := hs k hlt
      clear hs hs'
      go_wp2
      all_goals first
        | (go_ret; exact ⟨IsBool.mk _, rfl⟩)
        | (go_round
           case rel => exact ⟨k + 1, by omega, by go_num, _, rfl⟩
           case measure => simp [intOf]; omega)
    · clear hs
      go_wp2_with fail
      all_goals try (go_ret; exact ⟨IsBool.mk _, rfl⟩)
      go_loop [5, 7] (fun z i => ∃ k : Nat, k ≤ n' ∧ i = .int .i64 k ∧ ∃ zz : Int, z = .int .i64 zz) (fun _ i => n' - (intOf i).toNat)
      case atStart => exact ⟨0, Nat.zero_le _, rfl, _, rfl⟩
      case round =>
        obtain ⟨k', hk', rfl, zz', rfl⟩ := hrel
        by_cases hlt' : k' < n'
        · obtain ⟨b, off, s, rfl, hc, hsz⟩ := hs' k' hlt'
          clear hs'
          go_wp2
          all_goals first
            | (go_ret; exact ⟨IsBool.mk _, rfl⟩)
            | (go_round
               case rel => exact ⟨k' + 1, by omega, by go_num, _, rfl⟩
               case measure => simp [intOf]; omega)
        · go_wp2
          go_ret
          exact ⟨IsBool.mk _, rfl⟩

end Go.Proofs.Qxb6601988a
