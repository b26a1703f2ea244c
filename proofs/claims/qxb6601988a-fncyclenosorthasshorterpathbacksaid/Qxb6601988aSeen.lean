/-
  The row of marks: which vertices have been met.
-/
import Derived.Test.Qxb6601988aMat
namespace Go.Proofs.Qxb6601988a

/-- Which of 0 .. n-1 stand among the first k of p. -/
def seenR (p : List Int) (n k : Nat) : List Value := (List.range n).map fun (v : Nat) => .bool ((p.take k).contains (v : Int))

theorem seenR_zero (p : List Int) (n : Nat) : List.replicate n (Value.bool false) = seenR p n 0 := by
  simp [seenR, List.map_const']

theorem seenR_at (p : List Int) {n k v : Nat} (hv : v < n) : (seenR p n k)[v]? = some (.bool ((p.take k).contains (v : Int))) := by
  simp [seenR, hv]

theorem seenR_step (p : List Int) {n k v : Nat} (hx : p[k]? = some (v : Int)) : (seenR p n k).set v (.bool true) = seenR p n (k + 1) := by
  apply List.ext_getElem?
  intro i
  by_cases hi : i < n
  · by_cases e : v = i
    · subst e
      rw [List.getElem?_set_self (by simpa [seenR] using hi), seenR_at p hi, take_snoc hx]
      simp
    · rw [List.getElem?_set_ne e, seenR_at p hi, seenR_at p hi, take_snoc hx, List.contains_eq_mem, List.contains_eq_mem]
      have : ¬ (i : Int) = v := by omega
      simp [this]
  · rw [List.getElem?_eq_none (by simp [seenR]; omega), List.getElem?_eq_none (by simp [seenR]; omega)]

theorem notR_seen {p : List Int} {k : Nat} {x : Int} (hnd : p.Nodup) (hx : p[k]? = some x) : (p.take k).contains x = false := by
  rw [List.contains_eq_mem, decide_eq_false_iff_not]
  intro hm
  obtain ⟨j, hj, e⟩ := List.getElem_of_mem hm
  rw [List.length_take] at hj
  rw [List.getElem_take] at e
  have hk := (List.getElem?_eq_some_iff.1 hx)
  have h2 := List.pairwise_iff_getElem.1 (List.nodup_iff_pairwise_ne.1 hnd) j k (by omega) hk.1 (by omega)
  exact h2 (e.trans hk.2.symm)

end Go.Proofs.Qxb6601988a
