/-
  zzBuildSortsHB1: a new row of pointers to new structs, one a sort.
-/
import Derived.Test.Qxb6601988aMat
import Derived.RegionTactic
import Derived.BigRegion
namespace Go.Proofs.Qxb6601988a
open Go.RowKit

/-- The pointers that zzBuildSortsHB1 lays from block q on. -/
def ptrs (q n : Nat) : List Value := (List.range n).map fun i => .pointer (some ⟨q + i, 0, none⟩)

theorem ptrs_step (q n k : Nat) (hk : k < n) : (ptrs q k ++ List.replicate (n - k) (Value.pointer none)).set k (Value.pointer (some ⟨q + k, 0, none⟩)) = ptrs q (k + 1) ++ List.replicate (n - (k + 1)) (Value.pointer none) := by
  have e1 : (ptrs q k).length = k := by simp [ptrs]
  have e2 : List.replicate (n - k) (Value.pointer none) = .pointer none :: List.replicate (n - (k + 1)) (.pointer none) := by
    rw [show n - k = (n - (k + 1)) + 1 by omega, List.replicate_succ]
  have e3 : ptrs q (k + 1) = ptrs q k ++ [.pointer (some ⟨q + k, 0, none⟩)] := by simp [ptrs, List.range_succ]
  rw [List.set_append_right _ _ (by omega), e1, Nat.sub_self, e2, List.set_cons_zero, e3, List.append_assoc]
  rfl

/-- From block q on lie the structs of the sorts. -/
def SortBlk (w : World) (q : Nat) (ss : List (ByteArray × Int)) : Prop := ∀ i x, ss[i]? = some x → w.heap[q + i]? = some (.cells #[.string x.1, .int .i64 x.2] 57 (0, 0))

theorem SortBlk.below {w w' : World} {q B : Nat} {ss : List (ByteArray × Int)} (h : SortBlk w q ss) (hb : Below B w w') (hB : q + ss.length ≤ B) : SortBlk w' q ss := fun i x hx => by
  have hi := (List.getElem?_eq_some_iff.1 hx).1
  rw [hb.block (q + i) (by omega)]
  exact h i x hx

theorem Try.info47 : (Try.prog.info? 47).map (fun i => (i.zero, i.size, i.bytes)) = some (some (.pointer none), 1, 8) := by kernel_rfl

set_option maxHeartbeats 400000 in
theorem sorts10 (a : Addr) (n c : Nat) (ss : List (ByteArray × Int)) (w : World) (hs : Srt w (some a) n ss) (hn : n ≤ 256) :
    Calls Try.prog 10 #[.slice (some a) n c] w fun e w' => e = .returned (.slice (some ⟨w.heap.size, 0, none⟩) n n) ∧ RowAt w' 47 w.heap.size 0 n (ptrs (w.heap.size + 1) n) ∧
      SortBlk w' (w.heap.size + 1) ss ∧ w'.heap.size = w.heap.size + 1 + n ∧ Below w.heap.size w w' := by
  obtain ⟨i0, hi, hz0, hz1, hz2⟩ := info_parts Try.info47
  have hnil := fun w => run_neq_slice_nil_any (P := Try.prog) w 22 43 (some a) n c 0 0 Try.underlying22
  go_enter Try.func10, Try.ntmps10
  go_wp2_with (at_make; refine wpList_make_row _ rfl _ _ 28 rfl i0 (.pointer none) Try.underlying28 hi hz0 hz1 rfl _ _ _ _ n rfl rfl rfl rfl (by rw [hz2]; omega) (by unfold maxLen; omega) ?_)
  intro w1 hrow hgrow hsz
  have hb1 : Below w.heap.size w w1 := (Below.refl _ _).grown hgrow (Nat.le_refl _) (fun k hk => by cases hk)
  have Hsz : Hid (w1.heap.size = w.heap.size + 1) := hsz
  clear hsz hgrow
  go_wp2_with fail
  go_loopw [4] (fun i wr => ∃ k : Nat, k ≤ n ∧ i = .int .i64 k ∧ RowAt wr 47 w.heap.size 0 n (ptrs (w.heap.size + 1) k ++ List.replicate (n - k) (.pointer none)) ∧
      (∀ i x, i < k → ss[i]? = some x → wr.heap[w.heap.size + 1 + i]? = some (.cells #[.string x.1, .int .i64 x.2] 57 (0, 0))) ∧ wr.heap.size = w.heap.size + 1 + k ∧ Below w.heap.size w wr) (fun i _ => n - (intOf i).toNat)
  case atStart => exact ⟨0, Nat.zero_le _, rfl, by simpa [ptrs] using hrow, fun i x h => absurd h (Nat.not_lt_zero _), Hsz.out, hb1⟩
  case round =>
    clear hrow hb1
    obtain ⟨k, hk, rfl, hr, hcs, hsz, hb⟩ := hrel
    have Hsz : Hid (wr.heap.size = w.heap.size + 1 + k) := hsz
    have hlt1 : w.heap.size < wr.heap.size := by omega
    have Hcs := hid hcs
    clear hsz hcs
    by_cases hlt : k < n
    · obtain ⟨⟨s, ix⟩, hx⟩ : ∃ x, ss[k]? = some x := ⟨_, List.getElem?_eq_getElem (by rw [hs.len]; exact hlt)⟩
      obtain ⟨b, off, hae, hc0, hc1, _, _⟩ := hs.cells k _ hx
      obtain rfl : a = ⟨b, off, none⟩ := by simpa using hae
      clear hae
      have g0 := (hb.cell (World.block_lt_of_cell? _ _ hc0)).trans hc0
      have g1 := (hb.cell (World.block_lt_of_cell? _ _ hc1)).trans hc1
      have hbb : b < wr.heap.size := World.block_lt_of_cell? _ _ g0
      have hfr := hr.frozen (0 + k)
      obtain ⟨c0, hcc⟩ : ∃ c0, wr.cell? ⟨w.heap.size, 0 + k, none⟩ = some c0 := ⟨_, hr.cell_some (j := k) (List.getElem?_eq_getElem (by simp [ptrs]; omega))⟩
      simp only [Nat.zero_add] at hfr hcc
      have Hx := hid hx
      clear hx hc0 hc1
      go_wp2
      go_region
      go_wp2
      go_roundw
      case rel =>
        have hsz := Hsz.out
        refine ⟨k + 1, by omega, by go_num, ?_, ?_, by simp; omega, ((hb.setCell (Nat.le_refl _) _).alloc (by simp; omega) _).drew⟩
        · have hst := hr.stored k (.pointer (some ⟨wr.heap.size, 0, none⟩))
          rw [Nat.zero_add, hsz, ptrs_step _ _ _ hlt, ← hsz] at hst
          exact (hst.alloc _).drew
        · intro i x hi hxi
          rcases Nat.lt_succ_iff_lt_or_eq.1 hi with hik | rfl
          · show ((wr.setCell ⟨w.heap.size, k, none⟩ (.pointer (some ⟨wr.heap.size, 0, none⟩))).alloc (.cells #[.string s, .int .i64 ix] 57)).heap[w.heap.size + 1 + i]? = _
            rw [Below.heap_alloc _ _ _ (by simp; omega), Below.heap_setCell _ _ _ _ (by simp; omega)]
            exact Hcs.out i x hik hxi
          · obtain rfl : x = (s, ix) := by have := Hx.out; rw [hxi] at this; simpa using this
            show ((wr.setCell ⟨w.heap.size, i, none⟩ (.pointer (some ⟨wr.heap.size, 0, none⟩))).alloc (.cells #[.string s, .int .i64 ix] 57)).heap[w.heap.size + 1 + i]? = _
            rw [show w.heap.size + 1 + i = (wr.setCell ⟨w.heap.size, i, none⟩ (.pointer (some ⟨wr.heap.size, 0, none⟩))).heap.size by simp; omega]
            exact heap_alloc_new _ _
      case measure => simp [intOf]; omega
    · have hke : k = n := by omega
      subst hke
      go_wp2
      go_ret
      exact ⟨rfl, by simpa using hr, fun i x hx => Hcs.out i x (by have := (List.getElem?_eq_some_iff.1 hx).1; rw [hs.len] at this; exact this) hx, Hsz.out, hb⟩

/-- No sort, told by a nil slice. -/
theorem sorts10_nil (c : Nat) (w : World) : Calls Try.prog 10 #[.slice none 0 c] w fun e w' => e = .returned (.slice none 0 0) ∧ w = w' := by
  have hnil := fun w => run_neq_slice_nil_any (P := Try.prog) w 22 43 none 0 c 0 0 Try.underlying22
  go_enter Try.func10, Try.ntmps10
  go_wp2
  refine wp_loop_rounds 1 ?_
  rw [rounds_succ]
  go_wp2
  go_ret
  exact ⟨rfl, rfl⟩

end Go.Proofs.Qxb6601988a
