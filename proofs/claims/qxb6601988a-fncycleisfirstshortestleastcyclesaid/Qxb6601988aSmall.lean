/-
  zzFirstWhyHB1, zzPlaceOfHB1, zzSameIntsHB1.
-/
import Derived.Test.Qxb6601988aEdges
import Derived.Test.Qxb6601988aSorts
import Derived.Test.Qxb6601988aPath
import Derived.Laws.Pointers
import Derived.Deep.QuietTactic
import Derived.BigQuiet
namespace Go.Proofs.Qxb6601988a
open Go.RowKit Go.Proofs.Qxb6601988a.Bfs

theorem firstWhy_hit {es : List (Int × Int × ByteArray)} {k : Nat} {x y : Int} {s : ByteArray} (h0 : firstWhy (es.take k) x y = none) (h : es[k]? = some (x, y, s)) : firstWhy es x y = some s := by
  have hk := (List.getElem?_eq_some_iff.1 h)
  have e : es = es.take k ++ (x, y, s) :: es.drop (k + 1) := by
    conv => lhs; rw [← List.take_append_drop k es]
    rw [List.drop_eq_getElem_cons hk.1, hk.2]
  rw [e]
  unfold firstWhy at h0 ⊢
  rw [List.find?_append, Option.map_eq_none_iff.1 h0]
  simp

theorem firstWhy_miss {es : List (Int × Int × ByteArray)} {k : Nat} {x y : Int} {z : Int × Int × ByteArray} (h0 : firstWhy (es.take k) x y = none) (h : es[k]? = some z) (hne : ¬ (z.1 = x ∧ z.2.1 = y)) : firstWhy (es.take (k + 1)) x y = none := by
  obtain ⟨i, j, s⟩ := z
  rw [take_snoc h, firstWhy_snoc, h0]
  have : ¬ (x = i ∧ y = j) := fun ⟨a, b⟩ => hne ⟨a.symm, b.symm⟩
  simp [this]

set_option maxHeartbeats 400000 in
set_option maxRecDepth 100000 in
theorem why21 (a : Option Addr) (len cap : Nat) (es : List (Int × Int × ByteArray)) (x y : Int) (w : World) (he : Edg w a len es) :
    Calls Try.prog 21 #[.slice a len cap, .int .i64 x, .int .i64 y] w fun e w' => e = .returned (.tuple #[.string ((firstWhy es x y).getD ByteArray.empty), .bool (firstWhy es x y).isSome]) ∧ w = w' := by
  have hmax := he.max
  unfold maxLen at hmax
  go_enter Try.func21, Try.ntmps21
  go_wp2_with fail
  go_loop [8] (fun i => ∃ k : Nat, k ≤ len ∧ i = .int .i64 k ∧ Hid (firstWhy (es.take k) x y = none)) (fun i => len - (intOf i).toNat)
  case atStart => exact ⟨0, Nat.zero_le _, rfl, rfl⟩
  case round =>
    obtain ⟨k, hk, rfl, h0⟩ := hrel
    by_cases hlt : k < len
    · obtain ⟨⟨f, t, s⟩, hx⟩ : ∃ x, es[k]? = some x := ⟨_, List.getElem?_eq_getElem (by rw [he.len]; exact hlt)⟩
      obtain ⟨b, off, rfl, hc0, hc1, hc2, wf0, wf1, hsz⟩ := he.cells k _ hx
      have Hx := hid hx
      clear hx
      by_cases hf : f = x
      · by_cases ht : t = y
        · subst hf ht
          go_wp2
          go_ret2
          rw [firstWhy_hit h0.out Hx.out]
          exact ⟨rfl, rfl⟩
        · have hfb : (f == x) = true := by simpa using hf
          have htb : (t == y) = false := by simpa using ht
          have H2 := hid (firstWhy_miss h0.out Hx.out (fun h => ht h.2))
          clear hf ht
          go_wp2
          go_round
          case rel => exact ⟨k + 1, by omega, by go_num, H2⟩
          case measure => simp [intOf]; omega
      · have hfb : (f == x) = false := by simpa using hf
        have H2 := hid (firstWhy_miss h0.out Hx.out (fun h => hf h.1))
        clear hf
        go_wp2
        go_round
        case rel => exact ⟨k + 1, by omega, by go_num, H2⟩
        case measure => simp [intOf]; omega
    · have H2 := hid (show firstWhy es x y = none by have := h0.out; rwa [List.take_of_length_le (by rw [he.len]; omega)] at this)
      go_wp2
      go_ret2
      rw [H2.out]
      exact ⟨rfl, rfl⟩

set_option maxHeartbeats 400000 in
set_option maxRecDepth 100000 in
theorem same16 (g off cap g2 off2 cap2 : Nat) (p : List Int) (w : World) (h1 : RowAt w 3 g off cap (ints p)) (h2 : RowAt w 3 g2 off2 cap2 (ints p)) :
    Calls Try.prog 16 #[.slice (some ⟨g, off, none⟩) p.length cap, .slice (some ⟨g2, off2, none⟩) p.length cap2] w fun e w' => e = .returned (.bool true) ∧ Below w.heap.size w w' := by
  have e1 := fun w => Lib.run_eql_slice_nil (P := Try.prog) w 32 3 (some ⟨g, off, none⟩) p.length cap 0 0 Try.underlying32
  have e2 := fun w => Lib.run_eql_slice_nil (P := Try.prog) w 32 3 (some ⟨g2, off2, none⟩) p.length cap2 0 0 Try.underlying32
  have hle := h1.le
  have hmax := h1.max
  simp only [List.length_map] at hle
  unfold maxLen at hmax
  go_enter Try.func16, Try.ntmps16
  go_wp2_with fail
  go_loopw [5] (fun i wr => ∃ k : Nat, k ≤ p.length ∧ i = .int .i64 k ∧ Below w.heap.size w wr) (fun i _ => p.length - (intOf i).toNat)
  case atStart => exact ⟨0, Nat.zero_le _, rfl, Below.refl _ _⟩
  case round =>
    obtain ⟨k, hk, rfl, hb⟩ := hrel
    by_cases hlt : k < p.length
    · obtain ⟨x, hx⟩ : ∃ x, p[k]? = some x := ⟨_, List.getElem?_eq_getElem hlt⟩
      have q1 := (h1.below hb h1.lt).cell_some (j := k) (u := .int .i64 x) (by rw [List.getElem?_map, hx]; rfl)
      have q2 := (h2.below hb h2.lt).cell_some (j := k) (u := .int .i64 x) (by rw [List.getElem?_map, hx]; rfl)
      have hki : (k : Int) < (p.length : Int) := by omega
      have hxx : (x != x) = false := by simp
      clear hx
      go_wp2_with fail
      go_quiet (fail)
      go_wp2
      go_roundw
      case rel => exact ⟨k + 1, by omega, by go_num, below_drewN hb _⟩
      case measure => simp [intOf]; omega
    · go_wp2
      go_ret
      exact ⟨rfl, hb⟩

theorem same16_nil (w : World) : Calls Try.prog 16 #[.slice none 0 0, .slice none 0 0] w fun e w' => e = .returned (.bool true) ∧ w = w' := by
  have e1 := fun w => Lib.run_eql_slice_nil (P := Try.prog) w 32 3 none 0 0 0 0 Try.underlying32
  go_enter Try.func16, Try.ntmps16
  go_wp2_with fail
  refine wp_loop_rounds 1 ?_
  rw [rounds_succ]
  go_wp2
  go_ret
  exact ⟨rfl, rfl⟩

end Go.Proofs.Qxb6601988a
