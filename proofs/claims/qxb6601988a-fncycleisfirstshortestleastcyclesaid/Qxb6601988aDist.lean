/-
  PLAIN: all-pairs distances by Floyd and Warshall, and the greedy least cycle against them. No Go in sight.
-/
import Derived.Test.Qxb6601988aBfs
namespace Go.Proofs.Qxb6601988a.Bfs

/-- A walk of m edges from i to j. -/
def Lk (n : Nat) (E : Int → Int → Bool) : Nat → Int → Int → Prop
  | 0, i, j => i = j
  | m + 1, i, j => ∃ u, inR n u ∧ E i u = true ∧ Lk n E m u j

/-- .. whose vertices between the first and the last lie below k. -/
def Lb (n : Nat) (E : Int → Int → Bool) (k : Int) : Nat → Int → Int → Prop
  | 0, i, j => i = j
  | m + 1, i, j => ∃ u, inR n u ∧ E i u = true ∧ Lb n E k m u j ∧ (m = 0 ∨ u < k)

section
variable {n : Nat} {E : Int → Int → Bool}

theorem Lk.join : ∀ {a : Nat} {i k j : Int} {b : Nat}, Lk n E a i k → Lk n E b k j → Lk n E (a + b) i j
  | 0, i, k, j, b, h1, h2 => by
    rw [Nat.zero_add, show i = k from h1]; exact h2
  | a + 1, i, k, j, b, ⟨u, h1, h2, h3⟩, h => by
    rw [Nat.add_right_comm]
    exact ⟨u, h1, h2, h3.join h⟩

theorem Lk.below : ∀ {m : Nat} {i j : Int}, Lk n E m i j → Lb n E n m i j
  | 0, _, _, h => h
  | _ + 1, _, _, ⟨u, h1, h2, h3⟩ => ⟨u, h1, h2, h3.below, .inr h1.2⟩

theorem Lb.one {i j k : Int} (hj : inR n j) (h : E i j = true) : Lb n E k 1 i j := ⟨j, hj, h, rfl, .inl rfl⟩

/-- A walk whose vertices between lie at most at k goes below k, or comes to k and leaves it for the last time. -/
theorem Lb.split {k : Int} (hk : inR n k) : ∀ {m : Nat} {i j : Int}, Lb n E (k + 1) m i j → Lb n E k m i j ∨ ∃ a b, a + b ≤ m ∧ Lb n E k a i k ∧ Lb n E k b k j
  | 0, _, _, h => .inl h
  | m + 1, i, j, ⟨u, h1, h2, h3, h4⟩ => by
    by_cases hm : m = 0
    · subst hm
      exact .inl ⟨u, h1, h2, h3, .inl rfl⟩
    · have hu : u < k + 1 := by rcases h4 with h | h; exact absurd h hm; exact h
      by_cases huk : u = k
      · subst huk
        rcases Lb.split hk h3 with h5 | ⟨a, b, hab, _, h6⟩
        · exact .inr ⟨1, m, by omega, Lb.one h1 h2, h5⟩
        · exact .inr ⟨1, b, by omega, Lb.one h1 h2, h6⟩
      · rcases Lb.split hk h3 with h5 | ⟨a, b, hab, h5, h6⟩
        · exact .inl ⟨u, h1, h2, h5, .inr (by omega)⟩
        · exact .inr ⟨a + 1, b, by omega, ⟨u, h1, h2, h5, .inr (by omega)⟩, h6⟩

/-! ### the table -/

structure Snd (n : Nat) (E : Int → Int → Bool) (D : Int → Int → Int) : Prop where
  lo : ∀ i j, inR n i → inR n j → 0 ≤ D i j
  hi : ∀ i j, inR n i → inR n j → D i j ≤ n + 1
  walk : ∀ i j, inR n i → inR n j → D i j ≤ n → Lk n E (D i j).toNat i j

def Cmp (n : Nat) (E : Int → Int → Bool) (k : Int) (D : Int → Int → Int) : Prop := ∀ i j, inR n i → inR n j → ∀ m : Nat, Lb n E k m i j → D i j ≤ m

/-- How the table begins. -/
def initD (n : Nat) (E : Int → Int → Bool) (i j : Int) : Int := if i = j then 0 else if E i j then 1 else n + 1

theorem snd_init : Snd n E (initD n E) where
  lo i j _ _ := by unfold initD; split; omega; split <;> omega
  hi i j _ _ := by unfold initD; split; omega; split <;> omega
  walk i j _ hj h := by
    unfold initD at h ⊢
    split
    · rename_i e; exact e
    · rename_i e
      rw [if_neg e] at h
      split
      · rename_i e2; exact ⟨j, hj, e2, rfl⟩
      · rename_i e2
        rw [if_neg e2] at h
        omega

theorem cmp_init : Cmp n E 0 (initD n E) := by
  intro i j hi hj m h
  match m, h with
  | 0, h =>
    have e : i = j := h
    simp [initD, e]
  | 1, ⟨u, h1, h2, h3, _⟩ =>
    have e : u = j := h3
    subst e
    simp only [initD, h2, if_true]
    split <;> omega
  | m + 2, ⟨u, h1, h2, h3, h4⟩ =>
    rcases h4 with h4 | h4
    · omega
    · have := h1.1; omega

/-- Phase k, up to row i and column j: against the table D0 with which it began. -/
structure Ph (n : Nat) (E : Int → Int → Bool) (k : Int) (D0 D : Int → Int → Int) (i j : Int) : Prop where
  snd : Snd n E D
  cmp : Cmp n E k D0
  le : ∀ a b, inR n a → inR n b → D a b ≤ D0 a b
  via : ∀ a b, inR n a → inR n b → (a < i ∨ (a = i ∧ b < j)) → D a b ≤ D0 a k + D0 k b

variable {k : Int} {D0 D : Int → Int → Int} {i j : Int}

theorem ph_start (h1 : Snd n E D) (h2 : Cmp n E k D) : Ph n E k D D 0 0 where
  snd := h1
  cmp := h2
  le a b _ _ := by omega
  via a b ha hb h := by have := ha.1; have := hb.1; omega

theorem Ph.row (h : Ph n E k D0 D i n) : Ph n E k D0 D (i + 1) 0 := by
  refine ⟨h.snd, h.cmp, h.le, fun a b ha hb hc => h.via a b ha hb ?_⟩
  have := hb.1
  have := hb.2
  omega

theorem Ph.skip (h : Ph n E k D0 D i j) (hk : inR n k) (hd : ¬ D i k + D k j < D i j) : Ph n E k D0 D i (j + 1) := by
  refine ⟨h.snd, h.cmp, h.le, fun a b ha hb hc => ?_⟩
  by_cases e : a = i ∧ b = j
  · obtain ⟨rfl, rfl⟩ := e
    have := h.le a k ha hk
    have := h.le k b hk hb
    omega
  · exact h.via a b ha hb (by omega)

theorem Ph.set (h : Ph n E k D0 D i j) (hk : inR n k) (hi : inR n i) (hj : inR n j) (hd : D i k + D k j < D i j) :
    Ph n E k D0 (fun a b => if a = i ∧ b = j then D i k + D k j else D a b) i (j + 1) := by
  have l1 := h.snd.lo i k hi hk
  have l2 := h.snd.lo k j hk hj
  have l3 := h.snd.hi i j hi hj
  have l4 := h.le i k hi hk
  have l5 := h.le k j hk hj
  have l6 := h.le i j hi hj
  constructor
  · constructor
    · intro a b ha hb
      split
      · omega
      · exact h.snd.lo a b ha hb
    · intro a b ha hb
      split
      · omega
      · exact h.snd.hi a b ha hb
    · intro a b ha hb hle
      split
      · rename_i e
        obtain ⟨rfl, rfl⟩ := e
        have w1 := h.snd.walk a k ha hk (by omega)
        have w2 := h.snd.walk k b hk hb (by omega)
        have := w1.join w2
        rwa [show (D a k + D k b).toNat = (D a k).toNat + (D k b).toNat by omega]
      · rename_i e
        rw [if_neg e] at hle
        exact h.snd.walk a b ha hb hle
  · exact h.cmp
  · intro a b ha hb
    split
    · rename_i e
      obtain ⟨rfl, rfl⟩ := e
      omega
    · exact h.le a b ha hb
  · intro a b ha hb hc
    split
    · rename_i e
      obtain ⟨rfl, rfl⟩ := e
      omega
    · rename_i e
      exact h.via a b ha hb (by omega)

theorem Ph.over (h : Ph n E k D0 D n 0) (hk : inR n k) : Snd n E D ∧ Cmp n E (k + 1) D := by
  refine ⟨h.snd, fun a b ha hb m hw => ?_⟩
  rcases Lb.split hk hw with h1 | ⟨x, y, hxy, h1, h2⟩
  · have := h.cmp a b ha hb m h1
    have := h.le a b ha hb
    omega
  · have := h.cmp a k ha hk x h1
    have := h.cmp k b hk hb y h2
    have := h.via a b ha hb (.inl ha.2)
    omega

/-! ### closed walks and distances -/

/-- The vertices of a walk from i to j but for j. -/
def Sg (n : Nat) (E : Int → Int → Bool) : Int → List Int → Int → Prop
  | i, [], j => i = j
  | i, x :: q, j => x = i ∧ ∃ u, inR n u ∧ E i u = true ∧ Sg n E u q j

theorem Lk.seg : ∀ {m : Nat} {i j : Int}, Lk n E m i j → ∃ q, q.length = m ∧ Sg n E i q j
  | 0, _, _, h => ⟨[], rfl, h⟩
  | _ + 1, i, _, ⟨u, h1, h2, h3⟩ => by
    obtain ⟨q, hq, hs⟩ := h3.seg
    exact ⟨i :: q, by simp [hq], rfl, u, h1, h2, hs⟩

theorem Sg.head {i j x : Int} {q : List Int} (h : Sg n E i (x :: q) j) : x = i := h.1

theorem Sg.step : ∀ {q : List Int} {i j : Int}, Sg n E i q j → ∀ t x y, q[t]? = some x → q[t + 1]? = some y → inR n y ∧ E x y = true
  | [], _, _, _, t, x, y, h1, _ => by simp at h1
  | z :: q, i, j, ⟨e, u, h1, h2, h3⟩, 0, x, y, hx, hy => by
    subst e
    simp at hx
    subst hx
    match q, h3, hy with
    | w :: q, h3, hy =>
      simp at hy
      subst hy
      rw [h3.head]
      exact ⟨h1, h2⟩
  | z :: q, i, j, ⟨e, u, h1, h2, h3⟩, t + 1, x, y, hx, hy => h3.step t x y (by simpa using hx) (by simpa using hy)

theorem Sg.last : ∀ {q : List Int} {i j : Int}, Sg n E i q j → q ≠ [] → ∃ z, q.getLast? = some z ∧ E z j = true
  | [], _, _, _, h => absurd rfl h
  | [z], i, j, ⟨e, u, h1, h2, h3⟩, _ => by
    subst e
    have : u = j := h3
    subst this
    exact ⟨z, rfl, h2⟩
  | z :: w :: q, i, j, ⟨e, u, h1, h2, h3⟩, _ => by
    obtain ⟨y, hy, hE⟩ := h3.last (by simp)
    exact ⟨y, by rw [List.getLast?_cons_cons]; exact hy, hE⟩

variable {start : Int}

/-- A walk from start, an edge on, and a walk back: closed. -/
theorem closed_join {a q : List Int} {cur v : Int} (ha : Wk n E start a) (hl : a.getLast? = some cur) (hE : E cur v = true) (hv : inR n v) (hs : inR n start) (hq : Sg n E v q start) : Closed n E start (a ++ q) := by
  have hpos : 0 < a.length := List.length_pos_iff.2 ha.ne
  rw [List.getLast?_eq_getElem?] at hl
  cases q with
  | nil =>
    have : v = start := hq
    subst this
    rw [List.append_nil]
    exact ⟨ha, hs, cur, by rw [List.getLast?_eq_getElem?]; exact hl, hE⟩
  | cons x q =>
    have hxv := hq.head
    refine ⟨⟨by rw [List.getElem?_append_left hpos]; exact ha.1, fun i b c hb hc => ?_⟩, hs, ?_⟩
    · by_cases h1 : i + 1 < a.length
      · rw [List.getElem?_append_left (by omega)] at hb
        rw [List.getElem?_append_left h1] at hc
        exact ha.2 i b c hb hc
      · by_cases h2 : i + 1 = a.length
        · rw [List.getElem?_append_left (by omega), show i = a.length - 1 by omega, hl] at hb
          rw [List.getElem?_append_right (by omega), h2, Nat.sub_self] at hc
          simp at hb hc
          subst hb hc
          rw [hxv]
          exact ⟨hv, hE⟩
        · rw [List.getElem?_append_right (by omega)] at hb hc
          rw [show i + 1 - a.length = (i - a.length) + 1 by omega] at hc
          exact hq.step _ b c hb hc
    · obtain ⟨z, hz, hzE⟩ := hq.last (by simp)
      exact ⟨z, by rw [List.getLast?_append, hz]; rfl, hzE⟩

/-- From each vertex of a closed walk it goes on to start. -/
theorem Closed.rest {p : List Int} (h : Closed n E start p) : ∀ (m t : Nat) (x : Int), t + m = p.length → p[t]? = some x → Lk n E m x start
  | 0, t, x, hm, hx => by
    have := (List.getElem?_eq_some_iff.1 hx).1
    omega
  | 1, t, x, hm, hx => by
    obtain ⟨_, hs, z, hz, hE⟩ := h
    rw [List.getLast?_eq_getElem?, show p.length - 1 = t by omega, hx] at hz
    simp at hz
    subst hz
    exact ⟨start, hs, hE, rfl⟩
  | m + 2, t, x, hm, hx => by
    obtain ⟨y, hy⟩ : ∃ y, p[t + 1]? = some y := ⟨_, List.getElem?_eq_getElem (by omega)⟩
    obtain ⟨hr, hE⟩ := h.1.2 t x y hx hy
    exact ⟨y, hr, hE, h.rest (m + 1) (t + 1) y (by omega) hy⟩

/-- The table, whole. -/
structure Dist (n : Nat) (E : Int → Int → Bool) (D : Int → Int → Int) : Prop where
  snd : Snd n E D
  least : ∀ i j, inR n i → inR n j → ∀ m : Nat, Lk n E m i j → D i j ≤ m

theorem dist_of (h1 : Snd n E D) (h2 : Cmp n E n D) : Dist n E D := ⟨h1, fun i j hi hj m h => h2 i j hi hj m h.below⟩

/-- An edge from start and a distance back: a closed walk. -/
theorem Dist.closed (h : Dist n E D) (hs : inR n start) {u : Int} (hu : inR n u) (hE : E start u = true) (hd : D u start ≤ n) : ∃ c, Closed n E start c ∧ (c.length : Int) = 1 + D u start := by
  obtain ⟨q, hq, hsg⟩ := (h.snd.walk u start hu hs hd).seg
  have hlo := h.snd.lo u start hu hs
  exact ⟨[start] ++ q, closed_join wk_one rfl hE hu hs hsg, by simp; omega⟩

/-- What zzBackLenHB1 seeks: the least of 1 + D u start. -/
theorem Dist.of_best (h : Dist n E D) {p : List Int} (hb : Best n E start p) (hl : p.length ≤ n) : ∃ u, inR n u ∧ E start u = true ∧ D u start ≤ n ∧ 1 + D u start = p.length := by
  have hpos := hb.1.pos
  have hs := hb.1.2.1
  obtain ⟨u, hu⟩ : ∃ u, p[(0 + 1) % p.length]? = some u := ⟨_, List.getElem?_eq_getElem (Nat.mod_lt _ hpos)⟩
  have hur := hb.1.range hu
  have hE := hb.1.edge hb.1.1.1 hu
  have hle : D u start ≤ (p.length : Int) - 1 := by
    by_cases h1 : p.length = 1
    · rw [h1] at hu
      rw [hb.1.1.1] at hu
      simp at hu
      subst hu
      have := h.least start start hs hs 0 rfl
      omega
    · rw [Nat.mod_eq_of_lt (by omega)] at hu
      have := h.least u start hur hs (p.length - 1) (hb.1.rest (p.length - 1) 1 u (by omega) hu)
      omega
  obtain ⟨c, hc, hcl⟩ := h.closed hs hur hE (by omega)
  have := sle_len (hb.2 c hc)
  exact ⟨u, hur, hE, by omega, by omega⟩

theorem Dist.best_le (h : Dist n E D) {p : List Int} (hb : Best n E start p) {u : Int} (hu : inR n u) (hE : E start u = true) (hd : D u start ≤ n) : (p.length : Int) ≤ 1 + D u start := by
  obtain ⟨c, hc, hcl⟩ := h.closed hb.1.2.1 hu hE hd
  have := sle_len (hb.2 c hc)
  omega

/-- The greedy step: of the vertices that lead back in time the next one of the least cycle, and none below it. -/
theorem Dist.next (h : Dist n E D) {p : List Int} (hb : Best n E start p) (hl : p.length ≤ n) {t : Nat} (ht : 0 < t) {cur x : Int} (hcur : p[t - 1]? = some cur) (hx : p[t]? = some x) :
    inR n x ∧ E cur x = true ∧ D x start = (p.length : Int) - t ∧ ∀ v, inR n v → v < x → ¬ (E cur v = true ∧ D v start = (p.length : Int) - t) := by
  have hlt := (List.getElem?_eq_some_iff.1 hx).1
  have hs := hb.1.2.1
  have hxr := hb.1.range hx
  have hE : E cur x = true := (hb.1.1.2 (t - 1) cur x hcur (by rw [Nat.sub_add_cancel ht]; exact hx)).2
  have hlen : (p.take t).length = t := by simp; omega
  have hwk : Wk n E start (p.take t) := by
    refine ⟨by rw [List.getElem?_take, if_pos ht]; exact hb.1.1.1, fun i a b ha hbb => ?_⟩
    rw [List.getElem?_take] at ha hbb
    split at hbb
    · rw [if_pos (by omega)] at ha
      exact hb.1.1.2 i a b ha hbb
    · cases hbb
  have hlast : (p.take t).getLast? = some cur := by
    rw [List.getLast?_eq_getElem?, hlen, List.getElem?_take, if_pos (by omega)]
    exact hcur
  have hjoin : ∀ v, inR n v → E cur v = true → D v start ≤ n → ∃ q, Closed n E start (p.take t ++ q) ∧ (q.length : Int) = D v start ∧ Sg n E v q start := fun v hv hEv hd => by
    obtain ⟨q, hq, hsg⟩ := (h.snd.walk v start hv hs hd).seg
    have := h.snd.lo v start hv hs
    exact ⟨q, closed_join hwk hlast hEv hv hs hsg, by omega, hsg⟩
  have hle : D x start ≤ (p.length : Int) - t := by
    have := h.least x start hxr hs (p.length - t) (hb.1.rest _ t x (by omega) hx)
    omega
  have hge : (p.length : Int) - t ≤ D x start := by
    obtain ⟨q, hq, hql, _⟩ := hjoin x hxr hE (by omega)
    have := sle_len (hb.2 _ hq)
    simp only [List.length_append, hlen] at this
    omega
  refine ⟨hxr, hE, by omega, fun v hv hvx ⟨hEv, hd⟩ => ?_⟩
  obtain ⟨q, hq, hql, hsg⟩ := hjoin v hv hEv (by omega)
  match q, hq, hql, hsg with
  | [], _, hql, _ => simp at hql; omega
  | y :: q, hq, hql, hsg =>
    have hy := hsg.head
    have hdrop : p.drop t = x :: p.drop (t + 1) := by
      rw [List.drop_eq_getElem_cons hlt]
      congr 1
      rw [List.getElem?_eq_getElem hlt] at hx
      simpa using hx
    have hlex : slt (p.take t ++ y :: q) p := by
      refine .inr ⟨?_, ?_⟩
      · rw [List.length_append, hlen]; omega
      · have h1 : lexLt (p.take t ++ y :: q) (p.take t ++ p.drop t) := lexLt_left _ (by rw [hdrop]; exact .inl (by omega))
        rwa [List.take_append_drop] at h1
    rcases hb.2 _ hq with e | hlt2
    · rw [← e] at hlex
      exact slt_irrefl _ hlex
    · exact slt_irrefl _ (slt_trans hlex hlt2)

end

end Go.Proofs.Qxb6601988a.Bfs
