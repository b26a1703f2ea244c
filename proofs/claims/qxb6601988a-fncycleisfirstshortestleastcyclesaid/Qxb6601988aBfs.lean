/-
  PLAIN: a breadth-first search finds the shortest closed walk, the least of them in the order of numbers. No Go in sight.
-/
namespace Go.Proofs.Qxb6601988a.Bfs

/-! ### the order: first by length, then number by number -/

def lexLt : List Int → List Int → Prop
  | a :: l, b :: m => a < b ∨ (a = b ∧ lexLt l m)
  | _, _ => False

def slt (p q : List Int) : Prop := p.length < q.length ∨ (p.length = q.length ∧ lexLt p q)
def sle (p q : List Int) : Prop := p = q ∨ slt p q

theorem lexLt_irrefl : ∀ p, ¬ lexLt p p
  | [], h => h
  | a :: l, h => by
    rcases h with h | ⟨_, h⟩
    · omega
    · exact lexLt_irrefl l h

theorem lexLt_trans : ∀ {p q r}, lexLt p q → lexLt q r → lexLt p r
  | a :: l, b :: m, c :: k, h1, h2 => by
    rcases h1 with h1 | ⟨rfl, h1⟩ <;> rcases h2 with h2 | ⟨rfl, h2⟩
    · exact .inl (by omega)
    · exact .inl h1
    · exact .inl h2
    · exact .inr ⟨rfl, lexLt_trans h1 h2⟩

theorem lexLt_append : ∀ {p q : List Int} (s t : List Int), p.length = q.length → lexLt p q → lexLt (p ++ s) (q ++ t)
  | a :: l, b :: m, s, t, hl, h => by
    rcases h with h | ⟨rfl, h⟩
    · exact .inl h
    · exact .inr ⟨rfl, lexLt_append s t (by simpa using hl) h⟩

theorem lexLt_left : ∀ (p : List Int) {s t : List Int}, lexLt s t → lexLt (p ++ s) (p ++ t)
  | [], _, _, h => h
  | _ :: l, _, _, h => .inr ⟨rfl, lexLt_left l h⟩

theorem lexLt_total : ∀ {p q : List Int}, p.length = q.length → p = q ∨ lexLt p q ∨ lexLt q p
  | [], [], _ => .inl rfl
  | a :: l, b :: m, h => by
    rcases Int.lt_trichotomy a b with h1 | rfl | h1
    · exact .inr (.inl (.inl h1))
    · rcases lexLt_total (p := l) (q := m) (by simpa using h) with rfl | h2 | h2
      · exact .inl rfl
      · exact .inr (.inl (.inr ⟨rfl, h2⟩))
      · exact .inr (.inr (.inr ⟨rfl, h2⟩))
    · exact .inr (.inr (.inl h1))

theorem slt_irrefl (p : List Int) : ¬ slt p p := fun h => by
  rcases h with h | ⟨_, h⟩
  · omega
  · exact lexLt_irrefl p h

theorem slt_trans {p q r : List Int} (h1 : slt p q) (h2 : slt q r) : slt p r := by
  rcases h1 with h1 | ⟨e1, h1⟩ <;> rcases h2 with h2 | ⟨e2, h2⟩
  · exact .inl (by omega)
  · exact .inl (by omega)
  · exact .inl (by omega)
  · exact .inr ⟨by omega, lexLt_trans h1 h2⟩

theorem sle_refl (p : List Int) : sle p p := .inl rfl
theorem sle_of_slt {p q : List Int} (h : slt p q) : sle p q := .inr h
theorem sle_trans {p q r : List Int} (h1 : sle p q) (h2 : sle q r) : sle p r := by
  rcases h1 with rfl | h1
  · exact h2
  · rcases h2 with rfl | h2
    · exact .inr h1
    · exact .inr (slt_trans h1 h2)
theorem sle_antisymm {p q : List Int} (h1 : sle p q) (h2 : sle q p) : p = q := by
  rcases h1 with h1 | h1
  · exact h1
  · rcases h2 with h2 | h2
    · exact h2.symm
    · exact absurd (slt_trans h1 h2) (slt_irrefl p)
theorem sle_len {p q : List Int} (h : sle p q) : p.length ≤ q.length := by
  rcases h with rfl | h | ⟨h, _⟩ <;> omega
theorem slt_snoc {p q : List Int} (a b : Int) (h : slt p q) : slt (p ++ [a]) (q ++ [b]) := by
  rcases h with h | ⟨e, h⟩
  · exact .inl (by simp; omega)
  · exact .inr ⟨by simp [e], lexLt_append _ _ e h⟩
theorem slt_last (p : List Int) {a b : Int} (h : a < b) : slt (p ++ [a]) (p ++ [b]) := .inr ⟨by simp, lexLt_left p (.inl h)⟩
theorem sle_snoc {p q : List Int} (a : Int) (h : sle p q) : sle (p ++ [a]) (q ++ [a]) := by
  rcases h with rfl | h
  · exact .inl rfl
  · exact .inr (slt_snoc a a h)
theorem sle_more {p q : List Int} (a : Int) (h : sle p q) : sle p (q ++ [a]) := by
  have := sle_len h
  exact .inr (.inl (by simp; omega))

/-! ### walks -/

def inR (n : Nat) (x : Int) : Prop := 0 ≤ x ∧ x < n

/-- p is a walk from start: behind its first every vertex lies in [0, n), and each step is an edge. -/
def Wk (n : Nat) (E : Int → Int → Bool) (start : Int) (p : List Int) : Prop :=
  p[0]? = some start ∧ ∀ i x y, p[i]? = some x → p[i + 1]? = some y → inR n y ∧ E x y = true

/-- p is a closed walk through start, start first (and not again at its end). -/
def Closed (n : Nat) (E : Int → Int → Bool) (start : Int) (p : List Int) : Prop :=
  Wk n E start p ∧ inR n start ∧ ∃ x, p.getLast? = some x ∧ E x start = true

/-- p is the least of the shortest closed walks through start. -/
def Best (n : Nat) (E : Int → Int → Bool) (start : Int) (p : List Int) : Prop :=
  Closed n E start p ∧ ∀ q, Closed n E start q → sle p q

section
variable {n : Nat} {E : Int → Int → Bool} {start : Int}

theorem Wk.ne {p : List Int} (h : Wk n E start p) : p ≠ [] := fun e => by have := h.1; rw [e] at this; cases this

theorem wk_one : Wk n E start [start] := by
  refine ⟨rfl, fun i x y h1 h2 => ?_⟩
  simp at h2

theorem wk_snoc {p : List Int} {x y : Int} (h : Wk n E start p) (hl : p.getLast? = some y) (hx : inR n x) (he : E y x = true) : Wk n E start (p ++ [x]) := by
  have hne := h.ne
  have hpos : 0 < p.length := List.length_pos_iff.2 hne
  refine ⟨by rw [List.getElem?_append_left hpos]; exact h.1, fun i a b h1 h2 => ?_⟩
  by_cases hi : i + 1 < p.length
  · rw [List.getElem?_append_left (by omega)] at h1
    rw [List.getElem?_append_left hi] at h2
    exact h.2 i a b h1 h2
  · by_cases hi2 : i + 1 = p.length
    · rw [List.getElem?_append_left (by omega)] at h1
      rw [List.getElem?_append_right (by omega), hi2, Nat.sub_self] at h2
      rw [List.getLast?_eq_getElem?, show p.length - 1 = i by omega, h1] at hl
      simp at h2 hl
      subst h2 hl
      exact ⟨hx, he⟩
    · rw [List.getElem?_eq_none (by simp; omega)] at h2
      cases h2

theorem wk_init {p : List Int} {x : Int} (h : Wk n E start (p ++ [x])) (hne : p ≠ []) : Wk n E start p ∧ ∃ y, p.getLast? = some y ∧ inR n x ∧ E y x = true := by
  have hpos : 0 < p.length := List.length_pos_iff.2 hne
  refine ⟨⟨by rw [← h.1, List.getElem?_append_left hpos], fun i a b h1 h2 => ?_⟩, ?_⟩
  · have l2 := (List.getElem?_eq_some_iff.1 h2).1
    exact h.2 i a b (by rw [List.getElem?_append_left (by omega)]; exact h1) (by rw [List.getElem?_append_left l2]; exact h2)
  · obtain ⟨y, hy⟩ : ∃ y, p[p.length - 1]? = some y := ⟨_, List.getElem?_eq_getElem (by omega)⟩
    refine ⟨y, by rw [List.getLast?_eq_getElem?]; exact hy, h.2 (p.length - 1) y x (by rw [List.getElem?_append_left (by omega)]; exact hy) ?_⟩
    rw [List.getElem?_append_right (by omega), show p.length - 1 + 1 - p.length = 0 by omega]
    rfl

/-! ### how many -/
theorem nodup_le : ∀ (m : Nat) (l : List Nat), l.Nodup → (∀ x ∈ l, x < m) → l.length ≤ m
  | 0, l, _, h => by
    cases l with
    | nil => simp
    | cons a r => exact absurd (h a (by simp)) (Nat.not_lt_zero _)
  | m + 1, l, hd, h => by
    have ih := nodup_le m (l.erase m) (hd.erase m) (fun x hx => by
      have h1 := (hd.mem_erase_iff).1 hx
      have := h x h1.2
      omega)
    by_cases hm : m ∈ l
    · rw [List.length_erase_of_mem hm] at ih
      omega
    · rw [List.erase_of_not_mem hm] at ih
      omega

theorem nodup_le_int (m : Nat) (l : List Int) (hd : l.Nodup) (h : ∀ x ∈ l, inR m x) : l.length ≤ m := by
  have := nodup_le m (l.map Int.toNat) (by
    rw [List.nodup_iff_pairwise_ne, List.pairwise_map]
    refine List.Pairwise.imp_of_mem ?_ (List.nodup_iff_pairwise_ne.1 hd)
    intro a b ha hb hab e
    have h1 := h a ha
    have h2 := h b hb
    unfold inR at h1 h2
    omega) (fun x hx => by
    obtain ⟨y, hy, rfl⟩ := List.mem_map.1 hx
    have := h y hy
    unfold inR at this
    omega)
  simpa using this

end

/-! ### the search -/

/-- The chain back to start, the last vertex first: each names the one that it came from. -/
def Rp (came : Int → Option Int) (start : Int) : List Int → Prop
  | [] => False
  | [x] => x = start
  | x :: y :: l => x ≠ start ∧ came x = some y ∧ Rp came start (y :: l)

theorem Rp_congr {came came' : Int → Option Int} {start : Int} : ∀ {l : List Int}, (∀ x ∈ l, came' x = came x) → Rp came start l → Rp came' start l
  | [], _, h => h
  | [_], _, h => h
  | x :: y :: l, hc, h => ⟨h.1, (hc x (by simp)).trans h.2.1, Rp_congr (fun z hz => hc z (by simp at hz ⊢; exact .inr hz)) h.2.2⟩

theorem Rp.last {came : Int → Option Int} {start : Int} : ∀ {l : List Int}, Rp came start l → l.getLast? = some start
  | [x], h => by rw [show x = start from h]; rfl
  | x :: y :: l, h => by
    have := Rp.last h.2.2
    rw [List.getLast?_cons_cons]
    exact this

/-- The search's state while vertex v0 is looked at: D: those that are done with; Q: those that wait; the edges of v0 to 0 .. k-1 have been looked at. T: the walk by which each was found. -/
structure St (n : Nat) (E : Int → Int → Bool) (start : Int) (D : List Int) (v0 : Int) (Q : List Int) (k : Nat) (came : Int → Option Int) (T : Int → List Int) : Prop where
  nodup : (D ++ v0 :: Q).Nodup
  root : start ∈ D ∨ start = v0
  tstart : T start = [start]
  keys : ∀ v u, came v = some u → v ∈ D ++ v0 :: Q ∧ v ≠ start
  par : ∀ v, v ∈ D ++ v0 :: Q → v ≠ start → ∃ u, (u ∈ D ∨ (u = v0 ∧ v < k)) ∧ came v = some u ∧ E u v = true ∧ inR n v ∧ T v = T u ++ [v] ∧ ∀ x ∈ D, E x v = true → sle (T u) (T x)
  done : ∀ x, x ∈ D → ∀ y, inR n y → E x y = true → y ∈ D ++ v0 :: Q ∧ y ≠ start
  part : ∀ y : Int, 0 ≤ y → y < k → E v0 y = true → y ∈ D ++ v0 :: Q ∧ y ≠ start
  sorted : (D ++ v0 :: Q).Pairwise (fun a b => slt (T a) (T b))
  path : ∀ v, v ∈ D ++ v0 :: Q → (T v).Nodup ∧ (∀ x ∈ T v, x ∈ D ++ v0 :: Q) ∧ Wk n E start (T v) ∧ (T v).getLast? = some v ∧ Rp came start (T v).reverse

section
variable {n : Nat} {E : Int → Int → Bool} {start : Int} {D : List Int} {v0 : Int} {Q : List Int} {k : Nat} {came : Int → Option Int} {T : Int → List Int}

theorem st_start : St n E start [] start [] 0 (fun _ => none) (fun _ => [start]) where
  nodup := by simp
  root := .inr rfl
  tstart := rfl
  keys v u h := by cases h
  par v hv hne := by simp at hv; exact absurd hv hne
  done x hx := by simp at hx
  part y h0 h1 := by omega
  sorted := by simp
  path v hv := by
    simp at hv
    subst hv
    exact ⟨by simp, by simp, wk_one, rfl, rfl⟩

theorem St.skip (h : St n E start D v0 Q k came T) (he : E v0 k = false) : St n E start D v0 Q (k + 1) came T :=
  { h with
    par := fun v hv hne => by
      obtain ⟨u, hu, r⟩ := h.par v hv hne
      exact ⟨u, hu.imp id (fun ⟨a, b⟩ => ⟨a, by omega⟩), r⟩
    part := fun y h0 h1 h2 => by
      by_cases hy : y = k
      · rw [hy, he] at h2; cases h2
      · exact h.part y h0 (by omega) h2 }

theorem St.seen (h : St n E start D v0 Q k came T) (hc : (came k).isSome = true) : St n E start D v0 Q (k + 1) came T :=
  { h with
    par := fun v hv hne => by
      obtain ⟨u, hu, r⟩ := h.par v hv hne
      exact ⟨u, hu.imp id (fun ⟨a, b⟩ => ⟨a, by omega⟩), r⟩
    part := fun y h0 h1 h2 => by
      by_cases hy : y = k
      · subst hy
        obtain ⟨u, hu⟩ := Option.isSome_iff_exists.1 hc
        exact h.keys _ u hu
      · exact h.part y h0 (by omega) h2 }

theorem St.new (h : St n E start D v0 Q k came T) (he : E v0 k = true) (hkn : k < n) (hk : (k : Int) ≠ start) (hc : (came k).isSome = false) :
    St n E start D v0 (Q ++ [(k : Int)]) (k + 1) (fun x => if x = k then some v0 else came x) (fun x => if x = k then T v0 ++ [(k : Int)] else T x) := by
  have hO : D ++ v0 :: (Q ++ [(k : Int)]) = (D ++ v0 :: Q) ++ [(k : Int)] := by simp
  have hnot : (k : Int) ∉ D ++ v0 :: Q := fun hm => by
    obtain ⟨u, _, hu, _⟩ := h.par _ hm hk
    rw [hu] at hc
    cases hc
  have hin : ∀ {x}, x ∈ D ++ v0 :: Q → x ≠ k := fun hx e => hnot (e ▸ hx)
  have hD : ∀ {x}, x ∈ D → x ≠ k := fun hx => hin (by simp [hx])
  have hv0 : v0 ≠ k := hin (by simp)
  have hr : inR n k := ⟨by omega, by omega⟩
  constructor
  · rw [hO, List.nodup_append]
    exact ⟨h.nodup, by simp, fun a ha b hb => by simp at hb; subst hb; exact hin ha⟩
  · exact h.root
  · rw [if_neg (fun e => hk e.symm)]; exact h.tstart
  · intro v u hvu
    rw [hO]
    split at hvu
    · rename_i e
      subst e
      exact ⟨by simp, hk⟩
    · obtain ⟨a, b⟩ := h.keys v u hvu
      exact ⟨List.mem_append_left _ a, b⟩
  · intro v hv hne
    rw [hO] at hv
    rcases List.mem_append.1 hv with hv | hv
    · obtain ⟨u, hu, h1, h2, h3, h4, h5⟩ := h.par v hv hne
      have huk : u ≠ k := by
        rcases hu with hu | ⟨rfl, _⟩
        · exact hD hu
        · exact hv0
      refine ⟨u, hu.imp id (fun ⟨a, b⟩ => ⟨a, by omega⟩), by rw [if_neg (hin hv)]; exact h1, h2, h3, by rw [if_neg (hin hv), if_neg huk]; exact h4, fun x hx hxe => ?_⟩
      rw [if_neg huk, if_neg (hD hx)]
      exact h5 x hx hxe
    · simp at hv
      subst hv
      refine ⟨v0, .inr ⟨rfl, by omega⟩, by simp, he, hr, by simp [hv0], fun x hx hxe => ?_⟩
      exact absurd (h.done x hx _ hr hxe).1 hnot
  · intro x hx y hy hxy
    obtain ⟨a, b⟩ := h.done x hx y hy hxy
    rw [hO]
    exact ⟨List.mem_append_left _ a, b⟩
  · intro y h0 h1 h2
    rw [hO]
    by_cases hy : y = k
    · subst hy
      exact ⟨by simp, hk⟩
    · obtain ⟨a, b⟩ := h.part y h0 (by omega) h2
      exact ⟨List.mem_append_left _ a, b⟩
  · rw [hO, List.pairwise_append]
    refine ⟨?_, by simp, fun a ha b hb => ?_⟩
    · refine List.Pairwise.imp_of_mem ?_ h.sorted
      intro a b ha hb hab
      rw [if_neg (hin ha), if_neg (hin hb)]
      exact hab
    · simp at hb
      subst hb
      rw [if_neg (hin ha), if_pos rfl]
      by_cases has : a = start
      · subst has
        rw [h.tstart]
        have : T v0 ≠ [] := (h.path v0 (by simp)).2.2.1.ne
        have := List.length_pos_iff.2 this
        exact .inl (by simp; omega)
      · obtain ⟨u, hu, _, _, _, h4, _⟩ := h.par a ha has
        rw [h4]
        rcases hu with hu | ⟨rfl, hlt⟩
        · refine slt_snoc _ _ ?_
          exact (List.pairwise_append.1 h.sorted).2.2 u hu v0 (by simp)
        · exact slt_last _ hlt
  · intro v hv
    rw [hO] at hv ⊢
    rcases List.mem_append.1 hv with hv | hv
    · obtain ⟨h1, h2, h3, h4, h5⟩ := h.path v hv
      rw [if_neg (hin hv)]
      exact ⟨h1, fun x hx => List.mem_append_left _ (h2 x hx), h3, h4, Rp_congr (fun x hx => by rw [if_neg (hin (h2 x (by simpa using hx)))]) h5⟩
    · simp at hv
      subst hv
      obtain ⟨h1, h2, h3, h4, h5⟩ := h.path v0 (by simp)
      rw [if_pos rfl]
      refine ⟨?_, ?_, wk_snoc h3 h4 hr he, by simp, ?_⟩
      · rw [List.nodup_append]
        exact ⟨h1, by simp, fun a ha b hb => by simp at hb; subst hb; exact hin (h2 a ha)⟩
      · intro x hx
        rcases List.mem_append.1 hx with hx | hx
        · exact List.mem_append_left _ (h2 x hx)
        · exact List.mem_append_right _ hx
      · rw [List.reverse_append]
        have h5' := Rp_congr (came' := fun x => if x = k then some v0 else came x) (fun x hx => by rw [if_neg (hin (h2 x (by simpa using hx)))]) h5
        have hh : (T v0).reverse.head? = some v0 := by rw [List.head?_reverse]; exact h4
        match hm : (T v0).reverse with
        | [] => rw [hm] at hh; cases hh
        | y :: l =>
          rw [hm] at hh h5'
          simp at hh
          subst hh
          exact ⟨hk, by simp, h5'⟩

theorem St.next {f : Int} (h : St n E start D v0 (f :: Q) n came T) : St n E start (D ++ [v0]) f Q 0 came T := by
  have hO : (D ++ [v0]) ++ f :: Q = D ++ v0 :: f :: Q := by simp
  constructor
  · rw [hO]; exact h.nodup
  · rcases h.root with h1 | h1
    · exact .inl (by simp [h1])
    · exact .inl (by simp [h1])
  · exact h.tstart
  · rw [hO]; exact h.keys
  · rw [hO]
    intro v hv hne
    obtain ⟨u, hu, h1, h2, h3, h4, h5⟩ := h.par v hv hne
    refine ⟨u, .inl ?_, h1, h2, h3, h4, fun x hx hxe => ?_⟩
    · rcases hu with hu | ⟨rfl, _⟩
      · simp [hu]
      · simp
    · rcases List.mem_append.1 hx with hx | hx
      · exact h5 x hx hxe
      · simp at hx
        subst hx
        rcases hu with hu | ⟨rfl, _⟩
        · exact .inr ((List.pairwise_append.1 h.sorted).2.2 u hu x (by simp))
        · exact sle_refl _
  · rw [hO]
    intro x hx y hy hxy
    rcases List.mem_append.1 hx with hx | hx
    · exact h.done x hx y hy hxy
    · simp at hx
      subst hx
      exact h.part y hy.1 hy.2 hxy
  · intro y h0 h1
    omega
  · rw [hO]; exact h.sorted
  · rw [hO]; exact h.path

/-- Every walk from start ends in a vertex that is done with, by a walk no less than its own; or is no less than the walk to v0. -/
theorem St.reach (h : St n E start D v0 Q k came T) : ∀ r : List Int, Wk n E start r.reverse → (∃ x, r.head? = some x ∧ x ∈ D ∧ sle (T x) r.reverse) ∨ sle (T v0) r.reverse
  | [], hw => absurd hw.1 (by simp)
  | [x], hw => by
    have hx : x = start := by have := hw.1; simpa using this
    subst hx
    rcases h.root with h1 | h1
    · exact .inl ⟨x, rfl, h1, by rw [h.tstart]; exact sle_refl _⟩
    · right
      rw [← h1, h.tstart]
      exact sle_refl _
  | x :: y :: l, hw => by
    rw [List.reverse_cons] at hw ⊢
    obtain ⟨hw1, z, hz, hxr, hE⟩ := wk_init hw (by simp)
    have hzy : z = y := by simpa using hz.symm
    subst hzy
    rcases h.reach (z :: l) hw1 with ⟨q, hq, hqD, hqs⟩ | hs
    · have hqz : q = z := by simpa using hq.symm
      subst hqz
      obtain ⟨hxO, hxs⟩ := h.done q hqD x hxr hE
      obtain ⟨u, _, _, _, _, h4, h5⟩ := h.par x hxO hxs
      have hle : sle (T x) ((q :: l).reverse ++ [x]) := by
        rw [h4]
        exact sle_snoc _ (sle_trans (h5 q hqD hE) hqs)
      rcases List.mem_append.1 hxO with hD | hD
      · exact .inl ⟨x, rfl, hD, hle⟩
      · right
        rcases List.mem_cons.1 hD with rfl | hQ
        · exact hle
        · exact sle_trans (.inr ((List.pairwise_cons.1 (List.pairwise_append.1 h.sorted).2.1).1 x hQ)) hle
    · exact .inr (sle_more _ hs)

/-- The edge from v0 back to start closes the least of the shortest walks. -/
theorem St.found (h : St n E start D v0 Q k came T) (hs : inR n start) (he : E v0 start = true) : Best n E start (T v0) := by
  obtain ⟨h1, h2, h3, h4, h5⟩ := h.path v0 (by simp)
  refine ⟨⟨h3, hs, v0, h4, he⟩, fun q hq => ?_⟩
  obtain ⟨hw, _, x, hx, hE⟩ := hq
  rcases h.reach q.reverse (by simpa using hw) with ⟨z, hz, hzD, _⟩ | hle
  · rw [List.head?_reverse, hx] at hz
    simp at hz
    subst hz
    exact absurd rfl (h.done x hzD start hs hE).2
  · simpa using hle

/-- All is done with, and nothing closes. -/
theorem St.over (h : St n E start D v0 [] n came T) : ∀ q, ¬ Closed n E start q := by
  intro q hq
  obtain ⟨hw, hs, x, hx, hE⟩ := hq
  have key : ∀ r : List Int, Wk n E start r.reverse → ∃ x, r.head? = some x ∧ x ∈ D ++ [v0] := by
    intro r
    induction r with
    | nil => intro hw; exact absurd hw.1 (by simp)
    | cons x l ih =>
      intro hw
      cases l with
      | nil =>
        have hx : x = start := by have := hw.1; simpa using this
        subst hx
        rcases h.root with h1 | h1
        · exact ⟨x, rfl, by simp [h1]⟩
        · exact ⟨x, rfl, by simp [h1]⟩
      | cons y l =>
        rw [List.reverse_cons] at hw
        obtain ⟨hw1, z, hz, hxr, hE⟩ := wk_init hw (by simp)
        have hzy : z = y := by simpa using hz.symm
        subst hzy
        obtain ⟨q, hq, hqD⟩ := ih hw1
        have hqz : q = z := by simpa using hq.symm
        subst hqz
        refine ⟨x, rfl, ?_⟩
        rcases List.mem_append.1 hqD with hD | hD
        · exact (h.done q hD x hxr hE).1
        · simp at hD
          subst hD
          exact (h.part x hxr.1 hxr.2 hE).1
  obtain ⟨z, hz, hzD⟩ := key q.reverse (by simpa using hw)
  rw [List.head?_reverse, hx] at hz
  simp at hz
  subst hz
  rcases List.mem_append.1 hzD with hD | hD
  · exact (h.done x hD start hs hE).2 rfl
  · simp at hD
    subst hD
    exact (h.part start hs.1 hs.2 hE).2 rfl

theorem St.size (h : St n E start D v0 Q k came T) : (D ++ v0 :: Q).length ≤ n + 1 := by
  have h1 := nodup_le_int n ((D ++ v0 :: Q).erase start) (h.nodup.erase start) (fun x hx => by
    have hm := (h.nodup.mem_erase_iff).1 hx
    obtain ⟨u, _, _, _, h3, _⟩ := h.par x hm.2 hm.1
    exact h3)
  have hm : start ∈ D ++ v0 :: Q := by rcases h.root with h1 | h1 <;> simp [h1]
  rw [List.length_erase_of_mem hm] at h1
  omega

/-- Each that waits or is looked at is start or lies in [0, n). -/
theorem St.range (h : St n E start D v0 Q k came T) {x : Int} (hx : x ∈ D ++ v0 :: Q) : x = start ∨ inR n x := by
  by_cases e : x = start
  · exact .inl e
  · obtain ⟨u, _, _, _, h3, _⟩ := h.par x hx e
    exact .inr h3

end

/-! ### closed walks turned round -/
section
variable {n : Nat} {E : Int → Int → Bool} {start : Int} {p : List Int}

theorem Closed.pos (h : Closed n E start p) : 0 < p.length := List.length_pos_iff.2 h.1.ne

theorem Closed.range (h : Closed n E start p) {i : Nat} {x : Int} (hx : p[i]? = some x) : inR n x := by
  cases i with
  | zero =>
    have := h.1.1
    rw [hx] at this
    simp at this
    subst this
    exact h.2.1
  | succ i =>
    have hl := (List.getElem?_eq_some_iff.1 hx).1
    exact (h.1.2 i (p[i]'(by omega)) x (List.getElem?_eq_getElem _) hx).1

theorem Closed.edge (h : Closed n E start p) {i : Nat} {x y : Int} (hx : p[i]? = some x) (hy : p[(i + 1) % p.length]? = some y) : E x y = true := by
  have hl := (List.getElem?_eq_some_iff.1 hx).1
  by_cases hi : i + 1 < p.length
  · rw [Nat.mod_eq_of_lt hi] at hy
    exact (h.1.2 i x y hx hy).2
  · have he : i + 1 = p.length := by omega
    rw [he, Nat.mod_self, h.1.1] at hy
    obtain ⟨z, hz, hE⟩ := h.2.2
    rw [List.getLast?_eq_getElem?, show p.length - 1 = i by omega, hx] at hz
    simp at hy hz
    subst hy hz
    exact hE

theorem turn_at {i : Nat} (hi : i < p.length) {j : Nat} (hj : j < p.length) : (p.drop i ++ p.take i)[j]? = p[(i + j) % p.length]? := by
  by_cases h : i + j < p.length
  · rw [List.getElem?_append_left (by simp; omega), List.getElem?_drop, Nat.mod_eq_of_lt h]
  · rw [List.getElem?_append_right (by simp; omega), List.getElem?_take, List.length_drop, if_pos (by omega)]
    have h2 : (i + j) % p.length = i + j - p.length := by rw [Nat.mod_eq_sub_mod (by omega), Nat.mod_eq_of_lt (by omega)]
    rw [h2]
    congr 1
    omega

/-- A closed walk, begun at another of its vertices. -/
theorem Closed.turn (h : Closed n E start p) {i : Nat} {x : Int} (hx : p[i]? = some x) : ∃ q, Closed n E x q ∧ q.length = p.length := by
  have hi := (List.getElem?_eq_some_iff.1 hx).1
  have hlen : (p.drop i ++ p.take i).length = p.length := by simp; omega
  have step : ∀ j, j < p.length → ∀ a b, p[(i + j) % p.length]? = some a → p[(i + (j + 1)) % p.length]? = some b → E a b = true := fun j hj a b ha hb => by
    refine h.edge ha ?_
    rw [← hb]
    congr 1
    rw [Nat.add_mod, Nat.mod_mod, ← Nat.add_mod]
    rfl
  refine ⟨p.drop i ++ p.take i, ⟨⟨?_, fun j a b ha hb => ?_⟩, h.range hx, ?_⟩, hlen⟩
  · rw [turn_at hi (by omega), Nat.add_zero, Nat.mod_eq_of_lt hi]; exact hx
  · have hj := (List.getElem?_eq_some_iff.1 hb).1
    rw [hlen] at hj
    rw [turn_at hi (by omega)] at ha
    rw [turn_at hi hj] at hb
    exact ⟨h.range hb, step j (by omega) a b ha hb⟩
  · have hlt : (i + (p.length - 1)) % p.length < p.length := Nat.mod_lt _ (by omega)
    refine ⟨p[(i + (p.length - 1)) % p.length], ?_, ?_⟩
    · rw [List.getLast?_eq_getElem?, hlen, turn_at hi (by omega)]
      exact List.getElem?_eq_getElem _
    · refine step (p.length - 1) (by omega) _ x (List.getElem?_eq_getElem _) ?_
      rw [show i + (p.length - 1 + 1) = i + p.length by omega, Nat.add_mod_right, Nat.mod_eq_of_lt hi]
      exact hx

theorem closed_one (hs : inR n start) (he : E start start = true) : Closed n E start [start] := ⟨wk_one, hs, start, rfl, he⟩

end

end Go.Proofs.Qxb6601988a.Bfs
