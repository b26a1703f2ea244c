/-
  zzPlaceOfHB1, walked.
-/
import Derived.Test.Qxb6601988aSorts
import Derived.LaidEqlPtr
namespace Go.Proofs.Qxb6601988a
open Go.RowKit

theorem Try.info57 : (Try.prog.info? 57).map (fun i => i.size) = some 2 := by kernel_rfl

theorem ptrs_at {q n i : Nat} (hi : i < n) : (ptrs q n)[i]? = some (.pointer (some ⟨q + i, 0, none⟩)) := by simp [ptrs, hi]

/-- Two of the sorts' pointers are one just if their places are. -/
theorem eql_ptrs {w : World} {q : Nat} {ss : List (ByteArray × Int)} (hs : SortBlk w q ss) {i j : Nat} (hi : i < ss.length) (hj : j < ss.length) :
    (binOp .eql 47 (.pointer (some ⟨q + i, 0, none⟩)) (.pointer (some ⟨q + j, 0, none⟩))).run Try.prog w = .ok (.bool (i == j)) w := by
  obtain ⟨j0, h0, h1⟩ := Option.map_eq_some_iff.1 Try.info57
  by_cases e : i = j
  · subst e
    rw [run_eql_ptr_same w _ Try.underlying47 h0]
    simp
  · rw [run_eql_ptr_other (a := ⟨q + i, 0, none⟩) (b := ⟨q + j, 0, none⟩) w Try.underlying47 h0 (by omega) (fun h => by have h' := congrArg Addr.block h; simp only at h'; omega) (hs i _ (List.getElem?_eq_getElem hi)) (hs j _ (List.getElem?_eq_getElem hj))]
    simp [e]

set_option maxHeartbeats 400000 in
set_option maxRecDepth 100000 in
theorem place23 (g q n : Nat) (ss : List (ByteArray × Int)) (i : Nat) (w : World) (hr : RowAt w 47 g 0 n (ptrs q n)) (hs : SortBlk w q ss) (hl : ss.length = n) (hi : i < n) (hn : n ≤ 256) :
    Calls Try.prog 23 #[.slice (some ⟨g, 0, none⟩) n n, .pointer (some ⟨q + i, 0, none⟩)] w fun e w' => e = .returned (.int .i64 i) ∧ w = w' := by
  go_enter Try.func23, Try.ntmps23
  go_wp2_with fail
  go_loop [5] (fun v => ∃ k : Nat, k ≤ i ∧ v = .int .i64 k) (fun v => n - (intOf v).toNat)
  case atStart => exact ⟨0, Nat.zero_le _, rfl⟩
  case round =>
    obtain ⟨k, hk, rfl⟩ := hrel
    have hc := hr.cell_some (ptrs_at (show k < n by omega))
    have he := eql_ptrs hs (show k < ss.length by omega) (show i < ss.length by omega)
    simp only [Nat.zero_add] at hc
    by_cases e : k = i
    · subst e
      have hkk : (k == k) = true := by simp
      rw [hkk] at he
      go_wp2
      go_ret
      exact ⟨rfl, rfl⟩
    · have hkk : (k == i) = false := by simpa using e
      rw [hkk] at he
      go_wp2
      go_round
      case rel => exact ⟨k + 1, by omega, by go_num⟩
      case measure => simp [intOf]; omega

end Go.Proofs.Qxb6601988a
