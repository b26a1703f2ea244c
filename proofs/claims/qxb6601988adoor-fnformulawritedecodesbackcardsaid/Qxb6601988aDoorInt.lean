/-
  zzParseIntHB1 on a numeral.
-/
import Derived.Test.Qxb6601988aDoorNames
import Derived.Test.Qxb6601988aDoorDigits
namespace Go.Proofs.Qxb6601988aDoor
open Go.RowKit

set_option maxHeartbeats 1000000 in
set_option maxRecDepth 100000 in
theorem int21_pos (s : ByteArray) (i u : Nat) (hu : u ≤ 9223372036854775807) (hat : At s i (Lib.decDigits u)) (hnd : NoDig s (i + Lib.nDigits u)) (hs : s.size ≤ 4611686018427387904) (w : World) :
    Calls Tryd.prog 21 #[.string s, .int .i64 i] w fun e w' => e = .returned (.tuple #[.int .i64 u, .int .i64 ((i + Lib.nDigits u : Nat) : Int), .bool true]) ∧ w = w' := by
  have hD := Lib.nDigits_pos u
  have Hat := hid hat
  have Hnd := hid hnd
  obtain ⟨c, hc, hcv⟩ := digit_at (u := u) (k := 0) (by omega)
  obtain ⟨hi, hsi⟩ := hat.get hc
  rw [← hsi] at hcv
  simp only [Nat.add_zero] at hcv hi
  have hd0 := dig_lt u 0
  have hz0 : ((s[i]).toNat : Int) = 48 + dig u 0 := by omega
  clear hat hnd hc hsi hcv
  go_enter Tryd.func21, Tryd.ntmps21
  go_wp2_with fail
  go_loop [1, 9] (fun v a => ∃ (k j : Nat), k ≤ Lib.nDigits u ∧ Hid (j = i + k) ∧ v = .int .i64 j ∧ a = .int .u64 (acc u k)) (fun v _ => i + Lib.nDigits u - (intOf v).toNat)
  case atStart => exact ⟨0, i, Nat.zero_le _, rfl, rfl, by rw [acc_zero]; rfl⟩
  case round =>
    obtain ⟨k, j, hk, Hj, rfl, rfl⟩ := hrel
    have hj := Hj.out
    have ha := acc_le u k
    by_cases hlt : k < Lib.nDigits u
    · obtain ⟨c, hc, hcv⟩ := digit_at hlt
      obtain ⟨hjs, hsj⟩ := Hat.out.get hc
      have hd := dig_lt u k
      have hac := acc_succ hlt
      have ha1 := acc_le u (k + 1)
      have hjs' : j < s.size := by omega
      have hzj : ((s[j]).toNat : Int) = 48 + dig u k := by
        have e : s[j] = s[i + k] := by subst hj; rfl
        rw [e, hsj]
        omega
      have Hac := hid hac
      have hle : acc u k * 10 + dig u k ≤ 9223372036854775807 := by omega
      clear hc hcv hsj hjs hac hj
      generalize dig u k = d at *
      generalize acc u k = a at *
      have hq : ¬ (18446744073709551615 - (d : Int)) / 10 < (a : Int) := by omega
      go_wp2_with fail
      go_round
      case rel =>
        refine ⟨_, _, _, _, _, ⟨k + 1, hlt, j + 1, ?_, rfl, rfl⟩, by go_num, rfl, rfl, rfl, ?_⟩
        · have h := Hj.out
          show j + 1 = i + (k + 1)
          omega
        · rw [Hac.out]
          congr 1
          omega
      case measure => have := Hj.out; simp [intOf]; omega
    · obtain rfl : k = Lib.nDigits u := by omega
      rw [acc_all]
      have hij : i < j := by omega
      have hfirst : ¬ (dig u 0 = 0 ∧ i + 1 < j) := fun h => dig_first (by omega) h.1
      have Hnj := hid (show NoDig s j from hj ▸ Hnd.out)
      have hsz : j ≤ s.size := by
        have := Hat.out.lt (j := Lib.nDigits u - 1) (by rw [Lib.decDigits_length]; omega)
        omega
      clear hj ha hlt
      generalize dig u 0 = d at *
      by_cases hjs : j < s.size
      · have hn1 := Hnj.out hjs
        by_cases h48 : (s[j]).toNat < 48
        · go_wp2_with fail
          all_goals (go_ret3; exact ⟨by have h := Hj.out; subst h; simp, rfl⟩)
        · have h57 : 57 < (s[j]).toNat := by omega
          go_wp2_with fail
          all_goals (go_ret3; exact ⟨by have h := Hj.out; subst h; simp, rfl⟩)
      · go_wp2_with fail
        all_goals (go_ret3; exact ⟨by have h := Hj.out; subst h; simp, rfl⟩)

set_option maxHeartbeats 1000000 in
set_option maxRecDepth 100000 in
theorem int21_neg (s : ByteArray) (i0 u : Nat) (hu0 : 1 ≤ u) (hu : u ≤ 9223372036854775808) (hat0 : At s i0 (45 :: Lib.decDigits u)) (hnd0 : NoDig s (i0 + (1 + Lib.nDigits u))) (hs : s.size ≤ 4611686018427387904) (w : World) :
    Calls Tryd.prog 21 #[.string s, .int .i64 i0] w fun e w' => e = .returned (.tuple #[.int .i64 (-(u : Int)), .int .i64 ((i0 + (1 + Lib.nDigits u) : Nat) : Int), .bool true]) ∧ w = w' := by
  have hD := Lib.nDigits_pos u
  obtain ⟨⟨hi0, hsi0⟩, hat⟩ := hat0.cons
  have hz00 : ((s[i0]).toNat : Int) = 45 := by rw [hsi0]; rfl
  obtain ⟨i, hi0i⟩ : ∃ i, i = i0 + 1 := ⟨_, rfl⟩
  rw [← hi0i] at hat
  have hnd : NoDig s (i + Lib.nDigits u) := by rw [hi0i, Nat.add_assoc]; exact hnd0
  have Hi0 := hid hi0i
  clear hat0 hnd0 hsi0
  have Hat := hid hat
  have Hnd := hid hnd
  obtain ⟨c, hc, hcv⟩ := digit_at (u := u) (k := 0) (by omega)
  obtain ⟨hi, hsi⟩ := hat.get hc
  rw [← hsi] at hcv
  simp only [Nat.add_zero] at hcv hi
  have hd0 := dig_lt u 0
  have hz0 : ((s[i]).toNat : Int) = 48 + dig u 0 := by omega
  clear hat hnd hc hsi hcv
  have hu1 : ((u : Int) == 0) = false := by rw [beq_eq_false_iff_ne]; omega
  have hu2 : decide ((9223372036854775807 : Int) < (u : Int) - 1) = false := by rw [decide_eq_false_iff_not]; omega
  have hii : (i0 : Int) + 1 = i := by omega
  clear hi0i
  go_enter Tryd.func21, Tryd.ntmps21
  go_wp2_with fail
  go_loop [1, 9] (fun v a => ∃ (k j : Nat), k ≤ Lib.nDigits u ∧ Hid (j = i + k) ∧ v = .int .i64 j ∧ a = .int .u64 (acc u k)) (fun v _ => i + Lib.nDigits u - (intOf v).toNat)
  case atStart => exact ⟨0, i, Nat.zero_le _, rfl, rfl, by rw [acc_zero]; rfl⟩
  case round =>
    obtain ⟨k, j, hk, Hj, rfl, rfl⟩ := hrel
    have hj := Hj.out
    have ha := acc_le u k
    by_cases hlt : k < Lib.nDigits u
    · obtain ⟨c, hc, hcv⟩ := digit_at hlt
      obtain ⟨hjs, hsj⟩ := Hat.out.get hc
      have hd := dig_lt u k
      have hac := acc_succ hlt
      have ha1 := acc_le u (k + 1)
      have hjs' : j < s.size := by omega
      have hzj : ((s[j]).toNat : Int) = 48 + dig u k := by
        have e : s[j] = s[i + k] := by subst hj; rfl
        rw [e, hsj]
        omega
      have Hac := hid hac
      have hle : acc u k * 10 + dig u k ≤ 9223372036854775808 := by omega
      clear hc hcv hsj hjs hac hj
      generalize dig u k = d at *
      generalize acc u k = a at *
      have hq : ¬ (18446744073709551615 - (d : Int)) / 10 < (a : Int) := by omega
      go_wp2_with fail
      go_round
      case rel =>
        refine ⟨k + 1, j + 1, hlt, ?_, by go_num, ?_⟩
        · have h := Hj.out
          show j + 1 = i + (k + 1)
          omega
        · rw [Hac.out]
          congr 1
          omega
      case measure => have := Hj.out; simp [intOf]; omega
    · obtain rfl : k = Lib.nDigits u := by omega
      rw [acc_all]
      have hij : i < j := by omega
      have hfirst : ¬ (dig u 0 = 0 ∧ i + 1 < j) := fun h => dig_first (by omega) h.1
      have Hnj := hid (show NoDig s j from hj ▸ Hnd.out)
      have hsz : j ≤ s.size := by
        have := Hat.out.lt (j := Lib.nDigits u - 1) (by rw [Lib.decDigits_length]; omega)
        omega
      clear hj ha hlt
      generalize dig u 0 = d at *
      by_cases hjs : j < s.size
      · have hn1 := Hnj.out hjs
        by_cases h48 : (s[j]).toNat < 48
        · go_wp2_with fail
          all_goals (go_ret3; exact ⟨by have h := Hj.out; have h' := Hi0.out; subst h; subst h'; simp; omega, rfl⟩)
        · have h57 : 57 < (s[j]).toNat := by omega
          go_wp2_with fail
          all_goals (go_ret3; exact ⟨by have h := Hj.out; have h' := Hi0.out; subst h; subst h'; simp; omega, rfl⟩)
      · go_wp2_with fail
        all_goals (go_ret3; exact ⟨by have h := Hj.out; have h' := Hi0.out; subst h; subst h'; simp; omega, rfl⟩)

end Go.Proofs.Qxb6601988aDoor
