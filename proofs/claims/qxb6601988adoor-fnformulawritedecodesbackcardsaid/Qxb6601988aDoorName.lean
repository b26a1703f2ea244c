/-
  zzParseNameHB1 on a name and '('.
-/
import Derived.Test.Qxb6601988aDoorInt
namespace Go.Proofs.Qxb6601988aDoor
open Go.RowKit

theorem int21 (s : ByteArray) (i : Nat) (n : Int) (hn : wfI n) (hat : At s i (Lib.itoa n)) (hnd : NoDig s (i + (Lib.itoa n).length)) (hs : s.size ≤ 4611686018427387904) (w : World) :
    Calls Tryd.prog 21 #[.string s, .int .i64 i] w fun e w' => e = .returned (.tuple #[.int .i64 n, .int .i64 ((i + (Lib.itoa n).length : Nat) : Int), .bool true]) ∧ w = w' := by
  by_cases h0 : n < 0
  · obtain ⟨u, rfl⟩ : ∃ u : Nat, n = -(u : Int) := ⟨n.natAbs, by omega⟩
    rw [Lib.itoa_neg u (by omega)] at hat hnd ⊢
    rw [List.length_cons, Lib.decDigits_length, Nat.add_comm (Lib.nDigits u)] at hnd ⊢
    have := hn.1
    exact int21_neg s i u (by omega) (by omega) hat hnd hs w
  · obtain ⟨u, rfl⟩ : ∃ u : Nat, n = (u : Int) := ⟨n.toNat, by omega⟩
    rw [Lib.itoa_nonneg u] at hat hnd ⊢
    rw [Lib.decDigits_length] at hnd ⊢
    have := hn.2
    exact int21_pos s i u (by omega) hat hnd hs w

theorem extract_at {s nm : ByteArray} {i : Nat} (h : At s i nm.data.toList) : s.extract i (i + nm.size) = nm := by
  apply ByteArray.ext
  apply Array.ext'
  rw [ByteArray.data_extract, Array.toList_extract, List.extract_eq_take_drop, Nat.add_sub_cancel_left]
  apply List.ext_getElem?
  intro j
  by_cases hj : j < nm.size
  · rw [List.getElem?_take, if_pos hj, List.getElem?_drop]
    have hj' : j < nm.data.toList.length := by rw [size_toList]; exact hj
    rw [h j _ (List.getElem?_eq_getElem hj'), List.getElem?_eq_getElem hj']
  · rw [List.getElem?_take, if_neg hj, List.getElem?_eq_none (by rw [size_toList]; omega)]

set_option maxHeartbeats 1000000 in
set_option maxRecDepth 100000 in
theorem name22 (s nm : ByteArray) (i : Nat) (hat : At s i (nm.data.toList ++ [40])) (hnp : noParen nm.data.toList) (hs : s.size ≤ 4611686018427387904) (w : World) :
    Calls Tryd.prog 22 #[.string s, .int .i64 i] w fun e w' => e = .returned (.tuple #[.string nm, .int .i64 ((i + nm.size + 1 : Nat) : Int), .bool true]) ∧ w = w' := by
  have Hat := hid hat
  have Hnp := hid hnp
  obtain ⟨hend, hce⟩ := hat.get (j := nm.size) (c := 40) (by rw [List.getElem?_append_right (by rw [size_toList]; exact Nat.le_refl _), size_toList, Nat.sub_self]; rfl)
  clear hat hnp
  go_enter Tryd.func22, Tryd.ntmps22
  go_wp2_with fail
  go_loop [7] (fun v => ∃ (k j : Nat), k ≤ nm.size ∧ Hid (j = i + k) ∧ v = .int .i64 j) (fun v => i + nm.size - (intOf v).toNat)
  case atStart => exact ⟨0, i, Nat.zero_le _, rfl, rfl⟩
  case round =>
    obtain ⟨k, j, hk, Hj, rfl⟩ := hrel
    have hj := Hj.out
    by_cases hlt : k < nm.size
    · obtain ⟨c, hc⟩ : ∃ c, nm.data.toList[k]? = some c := ⟨_, List.getElem?_eq_getElem (by rw [size_toList]; exact hlt)⟩
      obtain ⟨hjs, hsj⟩ := Hat.out.get (j := k) (c := c) (by rw [List.getElem?_append_left (by rw [size_toList]; exact hlt)]; exact hc)
      have hc40 := Hnp.out c (List.mem_of_getElem? hc)
      have hjs' : j < s.size := by omega
      have hne : (((s[j]).toNat : Int) == 40) = false := by
        have e : s[j] = s[i + k] := by subst hj; rfl
        rw [e, hsj, beq_eq_false_iff_ne]
        omega
      clear hc hsj hjs hj
      go_wp2_with fail
      go_round
      case rel => exact ⟨k + 1, j + 1, hlt, (show j + 1 = i + (k + 1) by have := Hj.out; omega), by go_num⟩
      case measure => have := Hj.out; simp [intOf]; omega
    · obtain rfl : k = nm.size := by omega
      have hjs' : j < s.size := by omega
      have hz : ((s[j]).toNat : Int) = 40 := by
        have e : s[j] = s[i + nm.size] := by subst hj; rfl
        rw [e, hce]
        rfl
      have hij : i ≤ j := by omega
      clear hj hlt hk
      go_wp2_with fail
      go_ret3
      refine ⟨?_, rfl⟩
      show Ending.returned (.tuple #[.string (s.extract i j), .int .i64 ((j : Int) + 1), .bool true]) = _
      have h := Hj.out
      rw [h, extract_at Hat.out.left]
      simp

end Go.Proofs.Qxb6601988aDoor
