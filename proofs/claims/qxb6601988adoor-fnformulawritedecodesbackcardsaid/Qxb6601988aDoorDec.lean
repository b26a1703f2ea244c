/-
  What the parser gives: terms in rows of four cells; where the blocks lie ('ok'). The text's own places.
-/
import Derived.Test.Qxb6601988aDoorName
import Derived.Test.Qxb6601988aDoorWriteF
import Derived.Deep.AppendLies
namespace Go.Proofs.Qxb6601988aDoor
open Go.RowKit
open Go.Deep (BT)

def HdD (w : World) (ok : Nat → Prop) (a : Option ByteArray × Int) (n : Nat) (P : (Nat → Nat → Option Value) → Prop) (g : Nat → Option Value) : Prop :=
  ∃ bv v nm sl m cap, g 0 = some (.bool bv) ∧ g 1 = some (.int .i64 v) ∧ g 2 = some (.string nm) ∧ g 3 = some (.slice sl m cap) ∧
    ((a.1 = none ∧ bv = true ∧ v = a.2) ∨ (a.1 = some nm ∧ bv = false ∧ m = n ∧ (n = 0 ∨ ∃ b, sl = some ⟨b, 0, none⟩ ∧ ok b ∧ b < w.heap.size ∧ P (row w b 0 4))))

theorem row_of_block {w w' : World} {b : Nat} (h : w'.heap[b]? = w.heap[b]?) (o c k : Nat) : Keeps (row w b o c k) (row w' b o c k) := fun i v hv => by
  unfold row at hv ⊢
  rw [World.cell?_of_block (a := ⟨b, o + k * c + i, none⟩) h]
  exact hv

theorem HdD.keep {w w' : World} {ok ok' : Nat → Prop} (hs : w.heap.size ≤ w'.heap.size) (h : ∀ b, ok b → b < w.heap.size → ok' b ∧ w'.heap[b]? = w.heap[b]?)
    (a : Option ByteArray × Int) (n : Nat) (P P' : (Nat → Nat → Option Value) → Prop) (g g' : Nat → Option Value) (hg : Keeps g g')
    (hP : ∀ c c', (∀ k, Keeps (c k) (c' k)) → P c → P' c') (h0 : HdD w ok a n P g) : HdD w' ok' a n P' g' := by
  obtain ⟨bv, v, nm, sl, m, cap, g0, g1, g2, g3, h1⟩ := h0
  refine ⟨bv, v, nm, sl, m, cap, hg _ _ g0, hg _ _ g1, hg _ _ g2, hg _ _ g3, ?_⟩
  rcases h1 with h1 | ⟨h1, h2, h3, h4⟩
  · exact .inl h1
  · refine .inr ⟨h1, h2, h3, ?_⟩
    rcases h4 with h4 | ⟨b, h5, h6, h7, h8⟩
    · exact .inl h4
    · obtain ⟨h9, h10⟩ := h b h6 h7
      exact .inr ⟨b, h5, h9, by omega, hP _ _ (row_of_block h10 0 4) h8⟩

theorem oneD_keep {w w' : World} {ok ok' : Nat → Prop} (hs : w.heap.size ≤ w'.heap.size) (h : ∀ b, ok b → b < w.heap.size → ok' b ∧ w'.heap[b]? = w.heap[b]?) {x : T1} {g g' : Nat → Option Value} (hg : Keeps g g') (h0 : One (HdD w ok) x g) : One (HdD w' ok') x g' :=
  HdD.keep hs h _ _ _ _ _ _ hg (fun _ _ hc hA => hA.map Keeps (HdD.keep hs h) hc) h0

theorem keeps_refl (g : Nat → Option Value) : Keeps g g := fun _ _ h => h

abbrev ds (cs : List Value) : Nat → Option Value := fun i => cs[i]?

/-- The elements that are read so far, in the row that grows. -/
def upD (w : World) (ok : Nat → Prop) (l : TL) (k : Nat) (flat : List Value) : Prop := ∀ (e : Nat) y, e < k → (toL l)[e]? = some y → One (HdD w ok) y (fun i => flat[e * 4 + i]?)

theorem upD_zero (w : World) (ok : Nat → Prop) (l : TL) (flat : List Value) : upD w ok l 0 flat := fun e y h => by omega

theorem upD_succ {w w' : World} {ok ok' : Nat → Prop} {l : TL} {k : Nat} {flat cs : List Value} {y : T1} (h : upD w ok l k flat) (hlen : flat.length = k * 4) (hs : w.heap.size ≤ w'.heap.size) (hk : ∀ b, ok b → b < w.heap.size → ok' b ∧ w'.heap[b]? = w.heap[b]?)
    (hy : (toL l)[k]? = some y) (hcs : One (HdD w' ok') y (ds cs)) : upD w' ok' l (k + 1) (flat ++ cs) := fun e z he hz => by
  rcases Nat.lt_or_ge e k with h' | h'
  · refine oneD_keep hs hk (fun i v hv => ?_) (h e z h' hz)
    rw [List.getElem?_append_left (List.getElem?_eq_some_iff.1 hv).1]
    exact hv
  · obtain rfl : e = k := by omega
    rw [hy] at hz
    obtain rfl := Option.some.inj hz
    have e1 : (fun i => (flat ++ cs)[e * 4 + i]?) = ds cs := by
      funext i
      rw [List.getElem?_append_right (by omega), show e * 4 + i - flat.length = i by omega]
    rw [e1]
    exact hcs

theorem owns_below {w w' : World} {B : Nat} {e : TypeId} {size : Nat} {v : Value} {n : Nat} {xs : List Value} (h : w.ownsRow B e size v n xs) (hb : Below w.heap.size w w') : w'.ownsRow B e size v n xs := by
  refine h.kept (grown_of_below hb) ?_
  cases v.ownBlock with
  | none => exact .inl rfl
  | some k => exact .inr (by simp)

/-- A row that is owned, as cells. -/
theorem upD_all {w : World} {ok ok' : Nat → Prop} {l : TL} {k g cap B : Nat} {flat : List Value} (h : upD w ok l k flat) (hk : len l ≤ k) (ho : w.ownsRow B 70 4 (.slice (some ⟨g, 0, none⟩) k cap) k flat) (hok : ∀ b, ok b → ok' b) : All (HdD w ok') l (row w g 0 4) := by
  refine All.mk fun e y hy => ?_
  refine oneD_keep (Nat.le_refl _) (fun b hb _ => ⟨hok b hb, rfl⟩) (fun i v hv => ?_) (h e y (by have := toL_lt hy; omega) hy)
  have := ho.cells (g := g) rfl _ _ hv
  rw [Go.WideShapes.add_plain] at this
  simpa [row] using this

/-! ### places of the text -/

theorem text_head (y : T1) (hok : ok1 y) : ∃ c r, text y = c :: r ∧ c.toNat ≠ 41 ∧ ¬ (48 ≤ c.toNat ∧ c.toNat ≤ 57) ∧ c.toNat ≠ 45 ∧ (y.1.1 = none → c.toNat = 36) ∧ (y.1.1 ≠ none → c.toNat ≠ 36) := by
  obtain ⟨⟨s, v⟩, l⟩ := y
  cases s with
  | none => exact ⟨36, Lib.itoa v, rfl, by decide, by decide, by decide, fun _ => rfl, fun h => absurd rfl h⟩
  | some nm =>
    obtain ⟨⟨hnt, hdig⟩, hh⟩ := (hok nm rfl).1
    simp only [text, text1]
    cases hl : nm.data.toList with
    | nil => exact ⟨40, textT l ++ [41], rfl, by decide, by decide, by decide, (fun h => by cases h), fun _ => by decide⟩
    | cons c r =>
      rw [hl] at hdig hh
      obtain ⟨h1, h2, h3⟩ := hh c rfl
      exact ⟨c, r ++ [40] ++ textT l ++ [41], rfl, h3, hdig c rfl, h1, (fun h => by cases h), fun _ => h2⟩

theorem preX_at {α : Type} (f : α × BT α → List UInt8) {t : BT α} {k : Nat} {y : α × BT α} (h : (toL t)[k]? = some y) : ∃ r, ((toL t).map fun x => f x ++ [44]).flatten = preX f t k ++ (f y ++ ([44] ++ r)) := by
  refine ⟨(((toL t).drop (k + 1)).map fun x => f x ++ [44]).flatten, ?_⟩
  have e : ((toL t).map fun x => f x ++ [44]).flatten = preX f t (k + 1) ++ (((toL t).drop (k + 1)).map fun x => f x ++ [44]).flatten := by
    rw [preX, ← List.flatten_append, ← List.map_append, List.take_append_drop]
  rw [e, preX_succ f h]
  simp only [List.append_assoc]

theorem len_le_text (t : TL) : len t ≤ (textT t).length := by
  induction t with
  | nil => simp [len]
  | node _ _ a l r _ ih => simp only [len, textT, List.length_append, List.length_cons]; omega

theorem len_le_textF (t : FL) : len t ≤ (textF t).length := by
  induction t with
  | nil => simp [len]
  | node _ _ a l r _ ih => simp only [len, textF, List.length_append, List.length_cons]; omega

def wf1 (x : T1) : Prop := wfI x.1.2 ∧ wfT x.2
theorem wfT_get {t : TL} (h : wfT t) : ∀ {k : Nat} {y : T1}, (toL t)[k]? = some y → wf1 y := by
  induction t with
  | nil => intro k y hy; simp [toL] at hy
  | node _ _ a l r _ ih =>
    intro k y hy
    cases k with
    | zero => simp [toL] at hy; subst hy; exact ⟨h.1, h.2.1⟩
    | succ k => exact ih h.2.2 (k := k) (by simpa [toL] using hy)

def wfF1 (x : F1) : Prop := wfI x.1.1 ∧ wfT x.1.2.2.2 ∧ wfF x.2
theorem wfF_get {t : FL} (h : wfF t) : ∀ {k : Nat} {y : F1}, (toL t)[k]? = some y → wfF1 y := by
  induction t with
  | nil => intro k y hy; simp [toL] at hy
  | node _ _ a l r _ ih =>
    intro k y hy
    cases k with
    | zero => simp [toL] at hy; subst hy; exact ⟨h.1, h.2.1, h.2.2.1⟩
    | succ k => exact ih h.2.2.2 (k := k) (by simpa [toL] using hy)

end Go.Proofs.Qxb6601988aDoor
