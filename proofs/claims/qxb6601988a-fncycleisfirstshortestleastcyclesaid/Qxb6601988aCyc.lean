/-
  PLAIN: the first of the shortest cycles. No Go in sight.
-/
import Derived.Test.Qxb6601988aBfs
namespace Go.Proofs.Qxb6601988a.Bfs

/-- What is held when k of the vertices of ix have been asked: none of them lies on a closed walk; or p is the least shortest closed walk through the first of them whose is shortest. -/
def Sh (n : Nat) (E : Int → Int → Bool) (ix : List Int) (k : Nat) : Option (List Int) → Prop
  | none => ∀ i x, i < k → ix[i]? = some x → ∀ q, ¬ Closed n E x q
  | some p => ∃ i x, i < k ∧ ix[i]? = some x ∧ Best n E x p ∧ p.Nodup ∧ (∀ j y, j < i → ix[j]? = some y → ∀ q, Closed n E y q → p.length < q.length) ∧ (∀ j y, j < k → ix[j]? = some y → ∀ q, Closed n E y q → p.length ≤ q.length)

section
variable {n : Nat} {E : Int → Int → Bool} {ix : List Int} {k : Nat} {x : Int}

theorem sh_start : Sh n E ix 0 none := fun i x h => by omega

theorem sh_none {s : Option (List Int)} (h : Sh n E ix k s) (hx : ix[k]? = some x) (hno : ∀ q, ¬ Closed n E x q) : Sh n E ix (k + 1) s := by
  cases s with
  | none =>
    intro i y hi hy
    by_cases e : i = k
    · subst e; rw [hx] at hy; cases hy; exact hno
    · exact h i y (by omega) hy
  | some p =>
    obtain ⟨i, z, hi, hz, hb, hd, h1, h2⟩ := h
    refine ⟨i, z, by omega, hz, hb, hd, h1, fun j y hj hy q hq => ?_⟩
    by_cases e : j = k
    · subst e; rw [hx] at hy; cases hy; exact absurd hq (hno q)
    · exact h2 j y (by omega) hy q hq

theorem sh_first {p : List Int} (h : Sh n E ix k none) (hx : ix[k]? = some x) (hb : Best n E x p) (hd : p.Nodup) : Sh n E ix (k + 1) (some p) := by
  refine ⟨k, x, by omega, hx, hb, hd, fun j y hj hy q hq => absurd hq (h j y hj hy q), fun j y hj hy q hq => ?_⟩
  by_cases e : j = k
  · subst e; rw [hx] at hy; cases hy; exact sle_len (hb.2 q hq)
  · exact absurd hq (h j y (by omega) hy q)

theorem sh_less {p q : List Int} (h : Sh n E ix k (some p)) (hx : ix[k]? = some x) (hb : Best n E x q) (hd : q.Nodup) (hl : q.length < p.length) : Sh n E ix (k + 1) (some q) := by
  obtain ⟨i, z, hi, hz, hb', hd', h1, h2⟩ := h
  refine ⟨k, x, by omega, hx, hb, hd, fun j y hj hy c hc => ?_, fun j y hj hy c hc => ?_⟩
  · have := h2 j y hj hy c hc
    omega
  · by_cases e : j = k
    · subst e; rw [hx] at hy; cases hy; exact sle_len (hb.2 c hc)
    · have := h2 j y (by omega) hy c hc
      omega

theorem sh_keep {p q : List Int} (h : Sh n E ix k (some p)) (hx : ix[k]? = some x) (hb : Best n E x q) (hl : ¬ q.length < p.length) : Sh n E ix (k + 1) (some p) := by
  obtain ⟨i, z, hi, hz, hb', hd', h1, h2⟩ := h
  refine ⟨i, z, by omega, hz, hb', hd', h1, fun j y hj hy c hc => ?_⟩
  by_cases e : j = k
  · subst e; rw [hx] at hy; cases hy
    have := sle_len (hb.2 c hc)
    omega
  · exact h2 j y (by omega) hy c hc

end

end Go.Proofs.Qxb6601988a.Bfs
