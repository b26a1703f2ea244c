/-
  A square of bools in a row, and zzAdjacencyHB1.
-/
import Derived.Test.Qxb6601988aParts
namespace Go.Proofs.Qxb6601988a
open Go.RowKit

/-- Is there a listed edge from i to j? -/
def adjOf (es : List (Int × Int × ByteArray)) (i j : Nat) : Bool := es.any fun x => x.1 == (i : Int) && x.2.1 == (j : Int)

def mat (n : Nat) (A : Nat → Nat → Bool) : List Value := (List.range (n * n)).map fun i => .bool (A (i / n) (i % n))

theorem mat_length (n : Nat) (A : Nat → Nat → Bool) : (mat n A).length = n * n := by simp [mat]

theorem ix_lt {n f t : Nat} (hf : f < n) (ht : t < n) : f * n + t < n * n := by
  have : (f + 1) * n ≤ n * n := Nat.mul_le_mul_right n hf
  rw [Nat.add_mul] at this
  omega

theorem ix_div {n f t : Nat} (ht : t < n) : (f * n + t) / n = f := by
  rw [Nat.add_comm, Nat.add_mul_div_right _ _ (by omega), Nat.div_eq_of_lt ht, Nat.zero_add]

theorem ix_mod {n f t : Nat} (ht : t < n) : (f * n + t) % n = t := by
  rw [Nat.add_comm, Nat.add_mul_mod_self_right, Nat.mod_eq_of_lt ht]

theorem mat_at {n : Nat} (A : Nat → Nat → Bool) {f t : Nat} (hf : f < n) (ht : t < n) : (mat n A)[f * n + t]? = some (.bool (A f t)) := by
  have h := ix_lt hf ht
  simp [mat, h, ix_div ht, ix_mod ht]

theorem mat_set {n : Nat} (A A' : Nat → Nat → Bool) {f t : Nat} (hf : f < n) (ht : t < n) (b : Bool) (h1 : A' f t = b) (h2 : ∀ i j, i < n → j < n → ¬ (i = f ∧ j = t) → A' i j = A i j) :
    (mat n A).set (f * n + t) (.bool b) = mat n A' := by
  apply List.ext_getElem?
  intro i
  have h := ix_lt hf ht
  by_cases hi : i = f * n + t
  · subst hi
    rw [List.getElem?_set_self (by rw [mat_length]; exact h), mat_at A' hf ht, h1]
  · rw [List.getElem?_set_ne (fun e => hi e.symm)]
    by_cases hlt : i < n * n
    · simp only [mat, List.getElem?_map, List.getElem?_range hlt, Option.map_some]
      have hn : 0 < n := by omega
      rw [h2 (i / n) (i % n) (Nat.div_lt_of_lt_mul hlt) (Nat.mod_lt _ hn) (fun ⟨e1, e2⟩ => hi (by rw [← e1, ← e2, Nat.mul_comm]; exact (Nat.div_add_mod i n).symm))]
    · rw [List.getElem?_eq_none (by rw [mat_length]; omega), List.getElem?_eq_none (by rw [mat_length]; omega)]

theorem mat_none {n : Nat} (A : Nat → Nat → Bool) (h : ∀ i j, A i j = false) : List.replicate (n * n) (Value.bool false) = mat n A := by
  simp [mat, h, List.map_const']

theorem Try.info4 : (Try.prog.info? 4).map (fun i => (i.zero, i.size, i.bytes)) = some (some (.bool false), 1, 1) := by kernel_rfl

theorem adjOf_snoc (es : List (Int × Int × ByteArray)) (x : Int × Int × ByteArray) (i j : Nat) : adjOf (es ++ [x]) i j = (adjOf es i j || (x.1 == (i : Int) && x.2.1 == (j : Int))) := by
  simp [adjOf]

theorem take_snoc {α : Type} {l : List α} {k : Nat} {x : α} (h : l[k]? = some x) : l.take (k + 1) = l.take k ++ [x] := by
  rw [List.take_add_one, h]; rfl

set_option maxHeartbeats 400000 in
theorem adj13 (a : Option Addr) (len cap n : Nat) (es : List (Int × Int × ByteArray)) (w : World) (he : Edg w a len es) (hn : n ≤ 256) :
    Calls Try.prog 13 #[.slice a len cap, .int .i64 n] w fun e w' => ∃ g, e = .returned (.slice (some ⟨g, 0, none⟩) (n * n) (n * n)) ∧ w.heap.size ≤ g ∧ RowAt w' 4 g 0 (n * n) (mat n (adjOf es)) ∧ Below w.heap.size w w' := by
  obtain ⟨i0, hi, hz0, hz1, hz2⟩ := info_parts Try.info4
  have hnn : n * n ≤ 65536 := Nat.le_trans (Nat.mul_le_mul hn hn) (by decide)
  have hq : (n : Int) * (n : Int) = ((n * n : Nat) : Int) := by simp
  have hq0 : 0 ≤ (n : Int) * (n : Int) := by omega
  have hq1 : (n : Int) * (n : Int) ≤ 65536 := by omega
  have HQ : Hid ((n : Int) * (n : Int) = ((n * n : Nat) : Int)) := hq
  clear hq
  have hmax := he.max
  unfold maxLen at hmax
  go_enter Try.func13, Try.ntmps13
  go_wp2_with (at_make; refine wpList_make_row _ rfl _ _ 34 rfl i0 (.bool false) Try.underlying34 hi hz0 hz1 rfl _ _ _ _ (n * n) rfl rfl HQ.out HQ.out (by rw [hz2]; omega) (by unfold maxLen; omega) ?_)
  intro w1 hrow hgrow hsz
  have hb1 : Below w.heap.size w w1 := (Below.refl _ _).grown hgrow (Nat.le_refl _) (fun k hk => by cases hk)
  have Hsz : Hid (w1.heap.size = w.heap.size + 1) := hsz
  clear hsz hgrow
  go_wp2_with fail
  go_loopw [6] (fun i wr => ∃ k : Nat, k ≤ len ∧ i = .int .i64 k ∧ RowAt wr 4 w.heap.size 0 (n * n) (mat n (adjOf (es.take k))) ∧ Below w.heap.size w wr) (fun i _ => len - (intOf i).toNat)
  case atStart => exact ⟨0, Nat.zero_le _, rfl, by rw [← mat_none (adjOf (es.take 0)) (by simp [adjOf])]; exact hrow, hb1⟩
  case round =>
    clear hrow hb1
    obtain ⟨k, hk, rfl, hr, hb⟩ := hrel
    by_cases hlt : k < len
    · obtain ⟨⟨f, t, s⟩, hx⟩ : ∃ x, es[k]? = some x := ⟨_, List.getElem?_eq_getElem (by rw [he.len]; exact hlt)⟩
      obtain ⟨b, off, rfl, hc0, hc1, _, wf0, wf1, _⟩ := he.cells k _ hx
      have g0 := (hb.cell (World.block_lt_of_cell? _ _ hc0)).trans hc0
      have g1 := (hb.cell (World.block_lt_of_cell? _ _ hc1)).trans hc1
      have Hx : Hid (es[k]? = some (f, t, s)) := hx
      clear hx hc0 hc1
      by_cases hin : (0 ≤ f ∧ f < n) ∧ 0 ≤ t ∧ t < n
      · obtain ⟨⟨f0, f1⟩, t0, t1⟩ := hin
        obtain ⟨fn, rfl⟩ : ∃ fn : Nat, f = fn := ⟨f.toNat, by omega⟩
        obtain ⟨tn, rfl⟩ : ∃ tn : Nat, t = tn := ⟨t.toNat, by omega⟩
        have hfn : fn < n := by omega
        have htn : tn < n := by omega
        have hix := ix_lt hfn htn
        have hfr := hr.frozen (0 + (fn * n + tn))
        obtain ⟨c0, hcc⟩ : ∃ c0, wr.cell? ⟨w.heap.size, 0 + (fn * n + tn), none⟩ = some c0 := ⟨_, hr.cell_some (mat_at _ hfn htn)⟩
        simp only [Nat.zero_add] at hfr hcc
        go_wp2
        go_roundw
        case rel =>
          refine ⟨k + 1, by omega, by go_num, ?_, hb.setCell (Nat.le_refl _) _⟩
          have hs := hr.stored (fn * n + tn) (.bool true)
          rw [Nat.zero_add, mat_set (adjOf (es.take k)) (adjOf (es.take (k + 1))) hfn htn true (by rw [take_snoc Hx.out, adjOf_snoc]; simp) (fun i j _ _ hne => by
            rw [take_snoc Hx.out, adjOf_snoc]
            have : ((fn : Int) == (i : Int) && (tn : Int) == (j : Int)) = false := by
              rw [Bool.and_eq_false_iff]
              simp only [beq_eq_false_iff_ne, ne_eq]
              omega
            simp [this])] at hs
          exact hs
        case measure => simp [intOf]; omega
      · have Hin : Hid (¬ ((0 ≤ f ∧ f < n) ∧ 0 ≤ t ∧ t < n)) := hin
        clear hin
        have hsame : mat n (adjOf (es.take (k + 1))) = mat n (adjOf (es.take k)) := by
          unfold mat
          apply List.map_congr_left
          intro i hi
          have hi' : i < n * n := by simpa using hi
          have hn0 : 0 < n := by
            rcases Nat.eq_zero_or_pos n with h | h
            · subst h; simp at hi'
            · exact h
          have h1 : i / n < n := Nat.div_lt_of_lt_mul hi'
          have h2 : i % n < n := Nat.mod_lt _ hn0
          have : (f == ((i / n : Nat) : Int) && t == ((i % n : Nat) : Int)) = false := by
            rw [Bool.and_eq_false_iff]
            simp only [beq_eq_false_iff_ne, ne_eq]
            have := Hin.out
            generalize i / n = p at *
            generalize i % n = q at *
            omega
          rw [take_snoc Hx.out, adjOf_snoc, this, Bool.or_false]
        have Hs : Hid (mat n (adjOf (es.take (k + 1))) = mat n (adjOf (es.take k))) := hsame
        clear hsame
        go_wp2
        all_goals first
          | (go_roundw
             case rel => exact ⟨k + 1, by omega, by go_num, by rw [Hs.out]; exact hr, hb⟩
             case measure => simp [intOf]; omega)
          | (have := Hin.out; omega)
    · have hke : k = len := by omega
      have hT : es.take k = es := List.take_of_length_le (by rw [he.len]; omega)
      have HT : Hid (es.take k = es) := hT
      clear hT hke
      go_wp2
      go_ret
      exact ⟨_, rfl, Nat.le_refl _, by have := hr; rw [HT.out] at this; exact this, hb⟩

end Go.Proofs.Qxb6601988a
