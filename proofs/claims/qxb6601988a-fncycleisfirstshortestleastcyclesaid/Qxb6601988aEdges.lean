/-
  zzBuildEdgeMapHB1: a new map of the listed keys, each with its first reason.
-/
import Derived.Test.Qxb6601988aMaps
import Derived.Test.Qxb6601988aMat
import Derived.RegionTactic
import Derived.BigRegion
namespace Go.Proofs.Qxb6601988a
open Go.RowKit

/-- The first reason that the list gives for the edge from x to y. -/
def firstWhy (es : List (Int × Int × ByteArray)) (x y : Int) : Option ByteArray := (es.find? fun z => z.1 == x && z.2.1 == y).map (·.2.2)

theorem firstWhy_snoc (es : List (Int × Int × ByteArray)) (i j : Int) (s : ByteArray) (x y : Int) : firstWhy (es ++ [(i, j, s)]) x y = (firstWhy es x y).or (if x = i ∧ y = j then some s else none) := by
  unfold firstWhy
  rw [List.find?_append]
  cases h : es.find? fun z => z.1 == x && z.2.1 == y with
  | some q => simp
  | none =>
    simp only [Option.none_or, Option.map_none, List.find?_cons, List.find?_nil]
    by_cases e : x = i ∧ y = j
    · obtain ⟨rfl, rfl⟩ := e
      simp
    · have : (i == x && j == y) = false := by
        rw [Bool.and_eq_false_iff]
        simp only [beq_eq_false_iff_ne, ne_eq]
        omega
      simp [this, e]

theorem firstWhy_new (es : List (Int × Int × ByteArray)) (i j : Int) (s : ByteArray) (h : (firstWhy es i j).isSome = false) (x y : Int) : firstWhy (es ++ [(i, j, s)]) x y = if x = i ∧ y = j then some s else firstWhy es x y := by
  rw [firstWhy_snoc]
  by_cases e : x = i ∧ y = j
  · obtain ⟨rfl, rfl⟩ := e
    have : firstWhy es x y = none := by simpa using h
    simp [this]
  · simp [e]

theorem firstWhy_old (es : List (Int × Int × ByteArray)) (i j : Int) (s : ByteArray) (h : (firstWhy es i j).isSome = true) : firstWhy (es ++ [(i, j, s)]) = firstWhy es := by
  funext x y
  rw [firstWhy_snoc]
  by_cases e : x = i ∧ y = j
  · obtain ⟨rfl, rfl⟩ := e
    obtain ⟨q, hq⟩ := Option.isSome_iff_exists.1 h
    simp [hq]
  · simp [e]

theorem firstWhy_adj (es : List (Int × Int × ByteArray)) (i j : Nat) : (firstWhy es i j).isSome = adjOf es i j := by
  unfold firstWhy adjOf
  rw [Option.isSome_map, Bool.eq_iff_iff, List.find?_isSome, List.any_eq_true]

set_option maxHeartbeats 400000 in
theorem edges11 (a : Option Addr) (len cap : Nat) (es : List (Int × Int × ByteArray)) (w : World) (he : Edg w a len es) (hlen : len ≤ 32768) :
    Calls Try.prog 11 #[.slice a len cap] w fun e w' => e = .returned (.map (some w.heap.size)) ∧ EMap w' w.heap.size len (firstWhy es) ∧ Below w.heap.size w w' := by
  have hmm := @run_makeMap Try.prog
  go_enter Try.func11, Try.ntmps11
  go_wp2_with fail
  go_loopw [4] (fun i wr => ∃ k : Nat, k ≤ len ∧ i = .int .i64 k ∧ EMap wr w.heap.size k (firstWhy (es.take k)) ∧ Below w.heap.size w wr) (fun i _ => len - (intOf i).toNat)
  case atStart => exact ⟨0, Nat.zero_le _, rfl, EMap.made w, (Below.refl _ _).alloc (Nat.le_refl _) _⟩
  case round =>
    obtain ⟨k, hk, rfl, hm, hb⟩ := hrel
    by_cases hlt : k < len
    · obtain ⟨⟨f, t, s⟩, hx⟩ : ∃ x, es[k]? = some x := ⟨_, List.getElem?_eq_getElem (by rw [he.len]; exact hlt)⟩
      obtain ⟨b, off, rfl, hc0, hc1, hc2, wf0, wf1, hsz⟩ := he.cells k _ hx
      have g0 := (hb.cell (World.block_lt_of_cell? _ _ hc0)).trans hc0
      have g1 := (hb.cell (World.block_lt_of_cell? _ _ hc1)).trans hc1
      have g2 := (hb.cell (World.block_lt_of_cell? _ _ hc2)).trans hc2
      have hbb : b < wr.heap.size := World.block_lt_of_cell? _ _ g0
      have Hx := hid hx
      clear hx hc0 hc1 hc2
      go_wp2_with fail
      go_region
      go_wp2_with (at_lookup; refine wpList_look_e _ rfl _ _ rfl (hm.alloc _).drew rfl f t wf0 wf1 rfl ?_)
      · have hno : (firstWhy (es.take k) f t).isSome = false := by
          have h : (firstWhy (es.take k) f t).isNone = true := by assumption
          simpa using h
        obtain ⟨w2, hrun, hm2, hg2⟩ := run_store_e (f' := firstWhy (es.take (k + 1))) _ (hm.alloc (.cells #[.int .i64 f, .int .i64 t] 58)).drew.drew (by unfold maxLen; omega) f t wf0 wf1 s hsz (by rw [take_snoc Hx.out]; exact firstWhy_new _ _ _ _ hno)
        have hb2 : Below w.heap.size w w2 := ((hb.alloc hb.size (.cells #[.int .i64 f, .int .i64 t] 58)).drew.drew).grown hg2 (by have := hb.size; simp; omega) (fun j hj => by cases hj; exact Nat.le_refl _)
        have Hm2 := hid hm2
        clear hm2 hg2 hno
        go_region
        go_wp2
        go_roundw
        case rel => exact ⟨k + 1, by omega, by go_num, Hm2.out, hb2⟩
        case measure => simp [intOf]; omega
      · have hyes : (firstWhy (es.take k) f t).isSome = true := by
          have h : (firstWhy (es.take k) f t).isNone = false := by assumption
          simpa using h
        go_roundw
        case rel => exact ⟨k + 1, by omega, by go_num, by rw [take_snoc Hx.out, firstWhy_old _ _ _ _ hyes]; exact ((hm.alloc _).drew).mono (Nat.le_succ _), (hb.alloc hb.size _).drew⟩
        case measure => simp [intOf]; omega
    · have hke : k = len := by omega
      have HT := hid (show es.take k = es from List.take_of_length_le (by rw [he.len]; omega))
      subst hke
      go_wp2
      go_ret
      exact ⟨rfl, by have := hm; rw [HT.out] at this; exact this, hb⟩

end Go.Proofs.Qxb6601988a
