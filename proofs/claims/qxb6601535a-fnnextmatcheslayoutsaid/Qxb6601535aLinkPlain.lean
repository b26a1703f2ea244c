/-
  PLAIN: two ways to link each place of a window to the next one of its code. No Go in sight.
-/
namespace Go.Proofs.Qxb6601535a.Link

/-- Of the m offsets from i on the first whose code is c, as b + offset + 1; 0 where there is none. -/
def nxt (cs : Nat → Nat) (b : Nat) : Nat → Nat → Nat → Nat
  | 0, _, _ => 0
  | m + 1, i, c => if cs i = c then b + i + 1 else nxt cs b m (i + 1) c

/-- Behind the offsets from i on have been met. -/
def M (cs : Nat → Nat) (b count i c : Nat) : Nat := nxt cs b (count - i) i c

theorem M_end (cs : Nat → Nat) (b count c : Nat) : M cs b count count c = 0 := by simp [M, nxt]

theorem M_step {cs : Nat → Nat} {b count i : Nat} (hi : i < count) (c : Nat) : M cs b count i c = if cs i = c then b + i + 1 else M cs b count (i + 1) c := by
  unfold M
  rw [show count - i = (count - (i + 1)) + 1 by omega, nxt]

theorem nxt_spec (cs : Nat → Nat) (b : Nat) : ∀ (m i c : Nat), (nxt cs b m i c = 0 ∧ ∀ k, i ≤ k → k < i + m → cs k ≠ c) ∨
    ∃ k, i ≤ k ∧ k < i + m ∧ cs k = c ∧ (∀ k', i ≤ k' → k' < k → cs k' ≠ c) ∧ nxt cs b m i c = b + k + 1
  | 0, i, c => .inl ⟨rfl, fun k h1 h2 => by omega⟩
  | m + 1, i, c => by
    unfold nxt
    by_cases h : cs i = c
    · rw [if_pos h]
      exact .inr ⟨i, Nat.le_refl _, by omega, h, fun k' h1 h2 => by omega, rfl⟩
    · rw [if_neg h]
      rcases nxt_spec cs b m (i + 1) c with ⟨h1, h2⟩ | ⟨k, h1, h2, h3, h4, h5⟩
      · refine .inl ⟨h1, fun k hk1 hk2 => ?_⟩
        by_cases e : k = i
        · rw [e]; exact h
        · exact h2 k (by omega) (by omega)
      · refine .inr ⟨k, by omega, by omega, h3, fun k' hk1 hk2 => ?_, h5⟩
        by_cases e : k' = i
        · rw [e]; exact h
        · exact h4 k' (by omega) hk2

theorem M_none {cs : Nat → Nat} {b count i c : Nat} (hi : i ≤ count) (h : ∀ k, i ≤ k → k < count → cs k ≠ c) : M cs b count i c = 0 := by
  rcases nxt_spec cs b (count - i) i c with ⟨h1, _⟩ | ⟨k, h1, h2, h3, _⟩
  · exact h1
  · exact absurd h3 (h k h1 (by omega))

theorem M_some {cs : Nat → Nat} {b count i c k : Nat} (h1 : i ≤ k) (h2 : k < count) (h3 : cs k = c) (h4 : ∀ k', i ≤ k' → k' < k → cs k' ≠ c) : M cs b count i c = b + k + 1 := by
  rcases nxt_spec cs b (count - i) i c with ⟨_, h⟩ | ⟨q, q1, q2, q3, q4, q5⟩
  · exact absurd h3 (h k h1 (by omega))
  · have : q = k := by
      rcases Nat.lt_trichotomy q k with h | h | h
      · exact absurd q3 (h4 q q1 h)
      · exact h
      · exact absurd h3 (q4 k h1 h)
    subst this
    exact q5

/-- Does a code stand twice among the first m offsets? -/
def rep (cs : Nat → Nat) (m : Nat) : Bool := (List.range m).any fun k => (List.range k).any fun j => cs j == cs k

theorem rep_iff {cs : Nat → Nat} {m : Nat} : rep cs m = true ↔ ∃ j k, j < k ∧ k < m ∧ cs j = cs k := by
  unfold rep
  simp only [List.any_eq_true, List.mem_range, beq_iff_eq]
  exact ⟨fun ⟨k, hk, j, hj, h⟩ => ⟨j, k, hj, hk, h⟩, fun ⟨j, k, hj, hk, h⟩ => ⟨k, hk, j, hj, h⟩⟩

theorem rep_step (cs : Nat → Nat) (m : Nat) : rep cs (m + 1) = (rep cs m || (List.range m).any fun j => cs j == cs m) := by
  unfold rep
  rw [List.range_succ, List.any_append]
  simp

/-- What both ways come to. -/
def fin (cs : Nat → Nat) (first count : Nat) (old : Nat → Int) (a : Nat) : Int :=
  if rep cs count = true ∧ first ≤ a ∧ a < first + count then (M cs first count (a - first + 1) (cs (a - first)) : Int) else old a

/-! ### backwards -/

/-- The links while the offsets from t on have been linked. -/
def back (cs : Nat → Nat) (first count : Nat) (old : Nat → Int) (t : Nat) (a : Nat) : Int :=
  if first + t ≤ a ∧ a < first + count then (M cs first count (a - first + 1) (cs (a - first)) : Int) else old a

theorem back_step {cs : Nat → Nat} {first count : Nat} {old : Nat → Int} {t : Nat} (ht : t < count) (a : Nat) :
    back cs first count old t a = if a = first + t then (M cs first count (t + 1) (cs t) : Int) else back cs first count old (t + 1) a := by
  unfold back
  by_cases e : a = first + t
  · subst e
    rw [if_pos (by omega), if_pos rfl, show first + t - first = t by omega]
  · rw [if_neg e]
    by_cases h : first + (t + 1) ≤ a ∧ a < first + count
    · rw [if_pos h, if_pos (by omega)]
    · rw [if_neg h, if_neg (by omega)]

theorem back_end (cs : Nat → Nat) (first count : Nat) (old : Nat → Int) (a : Nat) : back cs first count old count a = old a := by
  unfold back
  rw [if_neg (by omega)]

theorem back_fin {cs : Nat → Nat} {first count : Nat} (old : Nat → Int) (h : rep cs count = true) (a : Nat) : back cs first count old 0 a = fin cs first count old a := by
  unfold back fin
  by_cases h2 : first ≤ a ∧ a < first + count
  · rw [if_pos (by omega), if_pos ⟨h, h2⟩]
  · rw [if_neg (by omega), if_neg (fun h3 => h2 h3.2)]

theorem fin_old {cs : Nat → Nat} {first count : Nat} (old : Nat → Int) (h : rep cs count = false) (a : Nat) : fin cs first count old a = old a := by
  unfold fin
  rw [if_neg (by rw [h]; simp)]

/-! ### forwards -/

/-- The state while the first i offsets have been gone through: L: the last offset + 1 of each code; W: the links. -/
structure Fwd (cs : Nat → Nat) (first : Nat) (old : Nat → Int) (i : Nat) (L : Nat → Nat) (W : Nat → Int) : Prop where
  last : ∀ c, (L c = 0 ∧ ∀ j, j < i → cs j ≠ c) ∨ ∃ q, L c = q + 1 ∧ q < i ∧ cs q = c ∧ ∀ j, q < j → j < i → cs j ≠ c
  link : ∀ j, j < i → (∃ k, j < k ∧ k < i ∧ cs k = cs j ∧ (∀ m, j < m → m < k → cs m ≠ cs j) ∧ W (first + j) = (first : Int) + k + 1) ∨ ((∀ k, j < k → k < i → cs k ≠ cs j) ∧ W (first + j) = old (first + j))
  out : ∀ a, a < first ∨ first + i ≤ a → W a = old a

theorem fwd_start (cs : Nat → Nat) (first : Nat) (old : Nat → Int) : Fwd cs first old 0 (fun _ => 0) old where
  last c := .inl ⟨rfl, fun j h => by omega⟩
  link j h := by omega
  out a _ := rfl

section
variable {cs : Nat → Nat} {first : Nat} {old : Nat → Int} {i : Nat} {L : Nat → Nat} {W : Nat → Int}

theorem last_step (h : Fwd cs first old i L W) (c : Nat) : ((fun x => if x = cs i then i + 1 else L x) c = 0 ∧ ∀ j, j < i + 1 → cs j ≠ c) ∨ ∃ q, (fun x => if x = cs i then i + 1 else L x) c = q + 1 ∧ q < i + 1 ∧ cs q = c ∧ ∀ j, q < j → j < i + 1 → cs j ≠ c := by
  by_cases e : c = cs i
  · right
    exact ⟨i, by simp [e], by omega, e.symm, fun j h1 h2 => by omega⟩
  · rcases h.last c with ⟨h1, h2⟩ | ⟨q, h1, h2, h3, h4⟩
    · left
      refine ⟨by simp [e, h1], fun j hj => ?_⟩
      by_cases e2 : j = i
      · rw [e2]; exact fun h => e h.symm
      · exact h2 j (by omega)
    · right
      refine ⟨q, by simp [e, h1], by omega, h3, fun j hj1 hj2 => ?_⟩
      by_cases e2 : j = i
      · rw [e2]; exact fun h => e h.symm
      · exact h4 j hj1 (by omega)

/-- A code that has not been met. -/
theorem Fwd.fresh (h : Fwd cs first old i L W) (hL : L (cs i) = 0) : Fwd cs first old (i + 1) (fun x => if x = cs i then i + 1 else L x) W := by
  have hno : ∀ j, j < i → cs j ≠ cs i := by
    rcases h.last (cs i) with ⟨_, h2⟩ | ⟨q, h1, _⟩
    · exact h2
    · omega
  refine ⟨last_step h, fun j hj => ?_, fun a ha => h.out a (by omega)⟩
  by_cases e : j = i
  · subst e
    exact .inr ⟨fun k h1 h2 => by omega, h.out _ (by omega)⟩
  · rcases h.link j (by omega) with ⟨k, h1, h2, h3⟩ | ⟨h1, h2⟩
    · exact .inl ⟨k, h1, by omega, h3⟩
    · refine .inr ⟨fun k hk1 hk2 => ?_, h2⟩
      by_cases e2 : k = i
      · rw [e2]; exact (hno j (by omega)).symm
      · exact h1 k hk1 (by omega)

/-- A code that was met last at offset q. -/
theorem Fwd.again (h : Fwd cs first old i L W) {q : Nat} (hL : L (cs i) = q + 1) : q < i ∧ Fwd cs first old (i + 1) (fun x => if x = cs i then i + 1 else L x) (fun a => if a = first + q then (first : Int) + i + 1 else W a) := by
  obtain ⟨hq, hqc, hqn⟩ : q < i ∧ cs q = cs i ∧ ∀ j, q < j → j < i → cs j ≠ cs i := by
    rcases h.last (cs i) with ⟨h1, _⟩ | ⟨q', h1, h2, h3, h4⟩
    · omega
    · obtain rfl : q' = q := by omega
      exact ⟨h2, h3, h4⟩
  refine ⟨hq, last_step h, fun j hj => ?_, fun a ha => ?_⟩
  · by_cases e : j = i
    · subst e
      refine .inr ⟨fun k h1 h2 => by omega, ?_⟩
      rw [if_neg (by omega)]
      exact h.out _ (by omega)
    · by_cases e2 : j = q
      · subst e2
        refine .inl ⟨i, by omega, by omega, hqc.symm, fun m hm1 hm2 => ?_, by rw [if_pos rfl]⟩
        rw [hqc]
        exact hqn m hm1 hm2
      · rw [if_neg (by omega)]
        rcases h.link j (by omega) with ⟨k, h1, h2, h3⟩ | ⟨h1, h2⟩
        · exact .inl ⟨k, h1, by omega, h3⟩
        · refine .inr ⟨fun k hk1 hk2 => ?_, h2⟩
          by_cases e3 : k = i
          · rw [e3]
            intro heq
            by_cases hjq : j < q
            · exact h1 q hjq hq (hqc.trans heq)
            · exact hqn j (by omega) (by omega) heq.symm
          · exact h1 k hk1 (by omega)
  · rw [if_neg (by omega)]
    exact h.out a (by omega)

/-- Without a repeated code nothing has turned. -/
theorem Fwd.same {count : Nat} (h : Fwd cs first old count L W) (hr : rep cs count = false) (a : Nat) : W a = fin cs first count old a := by
  rw [fin_old old hr]
  by_cases ha : a < first ∨ first + count ≤ a
  · exact h.out a ha
  · rcases h.link (a - first) (by omega) with ⟨k, h1, h2, h3, _⟩ | ⟨_, h2⟩
    · have : rep cs count = true := rep_iff.2 ⟨a - first, k, h1, h2, h3.symm⟩
      rw [hr] at this
      cases this
    · rwa [show first + (a - first) = a by omega] at h2

theorem Fwd.seen (h : Fwd cs first old i L W) : rep cs (i + 1) = (rep cs i || (L (cs i) != 0)) := by
  rw [rep_step]
  congr 1
  rw [Bool.eq_iff_iff, List.any_eq_true, bne_iff_ne]
  rcases h.last (cs i) with ⟨h1, h2⟩ | ⟨q, h1, h2, h3, _⟩
  · constructor
    · rintro ⟨j, hj, he⟩
      exact absurd (by simpa using he) (h2 j (by simpa using hj))
    · intro h; exact absurd h1 h
  · constructor
    · intro _; omega
    · intro _; exact ⟨q, by simpa using h2, by simpa using h3⟩

/-- The last ones of the codes below c are laid to 0. -/
def cleared (cs : Nat → Nat) (first count : Nat) (L : Nat → Nat) (W : Nat → Int) (c : Nat) (a : Nat) : Int :=
  if first ≤ a ∧ a < first + count ∧ L (cs (a - first)) = a - first + 1 ∧ cs (a - first) < c then 0 else W a

theorem cleared_start (cs : Nat → Nat) (first count : Nat) (L : Nat → Nat) (W : Nat → Int) (a : Nat) : cleared cs first count L W 0 a = W a := by
  unfold cleared
  rw [if_neg (by omega)]

theorem cleared_skip {count c : Nat} (hc : L c = 0) (a : Nat) : cleared cs first count L W (c + 1) a = cleared cs first count L W c a := by
  unfold cleared
  by_cases h : first ≤ a ∧ a < first + count ∧ L (cs (a - first)) = a - first + 1 ∧ cs (a - first) < c
  · rw [if_pos h, if_pos ⟨h.1, h.2.1, h.2.2.1, by omega⟩]
  · rw [if_neg h, if_neg]
    rintro ⟨h1, h2, h3, h4⟩
    by_cases e : cs (a - first) = c
    · rw [e, hc] at h3
      omega
    · exact h ⟨h1, h2, h3, by omega⟩

theorem Fwd.clear {count c q : Nat} (h : Fwd cs first old count L W) (hc : L c = q + 1) : q < count ∧ ∀ a, cleared cs first count L W (c + 1) a = if a = first + q then 0 else cleared cs first count L W c a := by
  obtain ⟨hq, hqc⟩ : q < count ∧ cs q = c := by
    rcases h.last c with ⟨h1, _⟩ | ⟨q', h1, h2, h3, h4⟩
    · omega
    · obtain rfl : q' = q := by omega
      exact ⟨h2, h3⟩
  refine ⟨hq, fun a => ?_⟩
  unfold cleared
  by_cases e : a = first + q
  · subst e
    have e1 : first + q - first = q := by omega
    rw [if_pos rfl, e1, hqc, if_pos ⟨by omega, by omega, hc, by omega⟩]
  · rw [if_neg e]
    by_cases h2 : first ≤ a ∧ a < first + count ∧ L (cs (a - first)) = a - first + 1 ∧ cs (a - first) < c
    · rw [if_pos h2, if_pos ⟨h2.1, h2.2.1, h2.2.2.1, by omega⟩]
    · rw [if_neg h2, if_neg]
      rintro ⟨h3, h4, h5, h6⟩
      by_cases e2 : cs (a - first) = c
      · rw [e2, hc] at h5
        omega
      · exact h2 ⟨h3, h4, h5, by omega⟩

theorem Fwd.over {count m : Nat} (h : Fwd cs first old count L W) (hr : rep cs count = true) (hm : ∀ j, j < count → cs j < m) (a : Nat) : cleared cs first count L W m a = fin cs first count old a := by
  by_cases ha : first ≤ a ∧ a < first + count
  · obtain ⟨h1, h2⟩ := ha
    obtain ⟨j, rfl⟩ : ∃ j, a = first + j := ⟨a - first, by omega⟩
    have e : first + j - first = j := by omega
    have hj : j < count := by omega
    have hf : fin cs first count old (first + j) = (M cs first count (j + 1) (cs j) : Int) := by
      unfold fin
      rw [if_pos ⟨hr, h1, h2⟩, e]
    rw [hf]
    rcases h.link j hj with ⟨k, k1, k2, k3, k4, k5⟩ | ⟨k1, _⟩
    · have hc : cleared cs first count L W m (first + j) = W (first + j) := by
        unfold cleared
        rw [if_neg]
        rw [e]
        rintro ⟨_, _, h3, _⟩
        rcases h.last (cs j) with ⟨q1, _⟩ | ⟨q, q1, q2, q3, q4⟩
        · omega
        · exact q4 k (by omega) k2 k3
      rw [hc, k5, M_some (by omega) k2 k3 (fun k' q1 q2 => k4 k' (by omega) q2)]
      omega
    · have hc : cleared cs first count L W m (first + j) = 0 := by
        unfold cleared
        rw [if_pos]
        rw [e]
        refine ⟨h1, h2, ?_, hm j hj⟩
        rcases h.last (cs j) with ⟨_, q2⟩ | ⟨q, q1, q2, q3, q4⟩
        · exact absurd rfl (q2 j hj)
        · rcases Nat.lt_trichotomy q j with hlt | rfl | hlt
          · exact absurd rfl (q4 j hlt hj)
          · exact q1
          · exact absurd q3 (k1 q hlt q2)
      rw [hc, M_none (by omega) (fun k q1 q2 => k1 k (by omega) q2)]
      rfl
  · unfold cleared fin
    rw [if_neg (fun hh => ha ⟨hh.1, hh.2.1⟩), if_neg (fun hh => ha hh.2)]
    exact h.out a (by omega)

end

end Go.Proofs.Qxb6601535a.Link
