/-
  zzNoOpenParenHB1, zzFormNameOKHB1, zzTermNameOKHB1.
-/
import Derived.Test.Qxb6601988aDoorBudget
namespace Go.Proofs.Qxb6601988aDoor
open Go.RowKit
open Go.Deep (BT)

def Told (P : Prop) (e : Ending) : Prop := ∃ r : Bool, e = .returned (.bool r) ∧ (r = true → P)
theorem Told.no (P : Prop) : Told P (.returned (.bool false)) := ⟨false, rfl, fun h => by cases h⟩
theorem Told.yes {P : Prop} (h : P) : Told P (.returned (.bool true)) := ⟨true, rfl, fun _ => h⟩

theorem at_list {s : ByteArray} {k : Nat} (h : k < s.size) : s.data.toList[k]? = some s[k] := by
  rw [List.getElem?_eq_getElem (by rw [size_toList]; exact h)]
  rfl

set_option maxHeartbeats 400000 in
set_option maxRecDepth 100000 in
theorem paren30 (s : ByteArray) (w : World) (hs : s.size ≤ 9223372036854775807) :
    Calls Tryd.prog 30 #[.string s] w fun e w' => Told (noParen s.data.toList) e ∧ w = w' := by
  go_enter Tryd.func30, Tryd.ntmps30
  go_wp2_with fail
  go_loop [3] (fun v => ∃ k : Nat, k ≤ s.size ∧ v = .int .i64 k ∧ Hid (∀ i c, i < k → s.data.toList[i]? = some c → c.toNat ≠ 40)) (fun v => s.size - (intOf v).toNat)
  case atStart => exact ⟨0, Nat.zero_le _, rfl, fun i c h => by omega⟩
  case round =>
    obtain ⟨k, hk, rfl, H⟩ := hrel
    by_cases hlt : k < s.size
    · go_wp2_with fail
      · go_ret
        exact ⟨Told.no _, rfl⟩
      · go_round
        case rel =>
          refine ⟨k + 1, by omega, by go_num, fun i c hi hc => ?_⟩
          rcases Nat.lt_or_ge i k with h | h
          · exact H.out i c h hc
          · obtain rfl : i = k := by omega
            rw [at_list hlt] at hc
            obtain rfl := Option.some.inj hc
            intro e
            have hne : (((s[i]'hlt).toNat : Int) == 40) = false := by assumption
            rw [e] at hne
            simp at hne
        case measure => simp [intOf]; omega
    · go_wp2
      go_ret
      refine ⟨Told.yes fun c hc => ?_, rfl⟩
      obtain ⟨i, hi, rfl⟩ := List.getElem_of_mem hc
      exact H.out i _ (by rw [size_toList] at hi; omega) (List.getElem?_eq_getElem hi)

theorem head_at {s : ByteArray} (h : 0 < s.size) : s.data.toList.head? = some s[0] := by
  rw [List.head?_eq_getElem?, at_list h]

theorem head_none {s : ByteArray} (h : ¬ 0 < s.size) : s.data.toList.head? = none := by
  have : s.data.toList = [] := List.eq_nil_of_length_eq_zero (by rw [size_toList]; omega)
  rw [this]; rfl

set_option maxHeartbeats 400000 in
set_option maxRecDepth 100000 in
theorem nameF19 (s : ByteArray) (w : World) (hs : s.size ≤ 9223372036854775807) :
    Calls Tryd.prog 19 #[.string s] w fun e w' => Told (nameF s.data.toList) e ∧ w = w' := by
  go_enter Tryd.func19, Tryd.ntmps19
  by_cases h0 : 0 < s.size
  · have hz : ((s.size : Int) == 0) = false := by rw [beq_eq_false_iff_ne]; omega
    have hh := head_at h0
    go_wp2_with (go_at_call 30; refine (paren30 s _ hs).mono ?_; rintro e w' ⟨⟨r, rfl, hr⟩, rfl⟩; have Hr := hid hr; clear hr; cases r)
    all_goals first
      | (go_ret; exact ⟨Told.no _, rfl⟩)
      | (go_ret
         refine ⟨⟨_, rfl, fun hb => ⟨Hr.out (by trivial), fun c hc => ?_⟩⟩, rfl⟩
         rw [hh] at hc
         obtain rfl := Option.some.inj hc
         first | omega | (simp at hb; omega))
  · have hz : ((s.size : Int) == 0) = true := by rw [beq_iff_eq]; omega
    have hh := head_none h0
    go_wp2_with (go_at_call 30; refine (paren30 s _ hs).mono ?_; rintro e w' ⟨⟨r, rfl, hr⟩, rfl⟩; have Hr := hid hr; clear hr; cases r)
    all_goals first
      | (go_ret; exact ⟨Told.no _, rfl⟩)
      | (go_ret; exact ⟨Told.yes ⟨Hr.out (by trivial), fun c hc => by rw [hh] at hc; cases hc⟩, rfl⟩)

set_option maxHeartbeats 400000 in
set_option maxRecDepth 100000 in
theorem nameT31 (s : ByteArray) (w : World) (hs : s.size ≤ 9223372036854775807) :
    Calls Tryd.prog 31 #[.string s] w fun e w' => Told (nameT s.data.toList) e ∧ w = w' := by
  go_enter Tryd.func31, Tryd.ntmps31
  by_cases h0 : 0 < s.size
  · have hz : ((s.size : Int) == 0) = false := by rw [beq_eq_false_iff_ne]; omega
    have hh := head_at h0
    go_wp2_with (go_at_call 19; refine (nameF19 s _ hs).mono ?_; rintro e w' ⟨⟨r, rfl, hr⟩, rfl⟩; have Hr := hid hr; clear hr; cases r)
    all_goals first
      | (go_ret; exact ⟨Told.no _, rfl⟩)
      | (go_ret
         refine ⟨⟨_, rfl, fun hb => ⟨Hr.out (by trivial), fun c hc => ?_⟩⟩, rfl⟩
         rw [hh] at hc
         obtain rfl := Option.some.inj hc
         first | omega | (simp at hb; omega))
  · have hz : ((s.size : Int) == 0) = true := by rw [beq_iff_eq]; omega
    have hh := head_none h0
    go_wp2_with (go_at_call 19; refine (nameF19 s _ hs).mono ?_; rintro e w' ⟨⟨r, rfl, hr⟩, rfl⟩; have Hr := hid hr; clear hr; cases r)
    all_goals first
      | (go_ret; exact ⟨Told.no _, rfl⟩)
      | (go_ret; exact ⟨Told.yes ⟨Hr.out (by trivial), fun c hc => by rw [hh] at hc; cases hc⟩, rfl⟩)

end Go.Proofs.Qxb6601988aDoor
