/-
  Formulas as the parser gives them.
-/
import Derived.Test.Qxb6601988aDoorParse
namespace Go.Proofs.Qxb6601988aDoor
open Go.RowKit
open Go.Deep (BT)

/-- A row of parsed terms. -/
def RowD (w : World) (ok : Nat → Prop) (sl : Option Addr) (m : Nat) (t : TL) : Prop := m = len t ∧ (m = 0 ∨ ∃ b, sl = some ⟨b, 0, none⟩ ∧ ok b ∧ b < w.heap.size ∧ All (HdD w ok) t (row w b 0 4))

theorem RowD.keep {w w' : World} {ok ok' : Nat → Prop} (hs : w.heap.size ≤ w'.heap.size) (h : ∀ b, ok b → b < w.heap.size → ok' b ∧ w'.heap[b]? = w.heap[b]?) {sl : Option Addr} {m : Nat} {t : TL} (h0 : RowD w ok sl m t) : RowD w' ok' sl m t := by
  refine ⟨h0.1, ?_⟩
  rcases h0.2 with h1 | ⟨b, h1, h2, h3, h4⟩
  · exact .inl h1
  · obtain ⟨h5, h6⟩ := h b h2 h3
    exact .inr ⟨b, h1, h5, by omega, h4.map Keeps (HdD.keep hs h) (row_of_block h6 0 4)⟩

def nmB : Option ByteArray → ByteArray
  | none => ⟨#[]⟩
  | some nm => nm

theorem nmB_list (s : Option ByteArray) : (nmB s).data.toList = nameOf s := by cases s <;> rfl

/-- A parsed formula's four cells. -/
def HdE (w : World) (ok : Nat → Prop) (a : Int × Option ByteArray × Bool × TL) (n : Nat) (P : (Nat → Nat → Option Value) → Prop) (g : Nat → Option Value) : Prop :=
  ∃ sl m cap xl xcap, g 0 = some (.int .i64 a.1) ∧ g 1 = some (.string (nmB a.2.1)) ∧ g 2 = some (.slice sl m cap) ∧ g 3 = some (.slice xl n xcap) ∧
    RowD w ok sl m a.2.2.2 ∧ (n = 0 ∨ ∃ b, xl = some ⟨b, 0, none⟩ ∧ ok b ∧ b < w.heap.size ∧ P (row w b 0 4))

theorem HdE.keep {w w' : World} {ok ok' : Nat → Prop} (hs : w.heap.size ≤ w'.heap.size) (h : ∀ b, ok b → b < w.heap.size → ok' b ∧ w'.heap[b]? = w.heap[b]?)
    (a : Int × Option ByteArray × Bool × TL) (n : Nat) (P P' : (Nat → Nat → Option Value) → Prop) (g g' : Nat → Option Value) (hg : Keeps g g')
    (hP : ∀ c c', (∀ k, Keeps (c k) (c' k)) → P c → P' c') (h0 : HdE w ok a n P g) : HdE w' ok' a n P' g' := by
  obtain ⟨sl, m, cap, xl, xcap, g0, g1, g2, g3, h1, h2⟩ := h0
  refine ⟨sl, m, cap, xl, xcap, hg _ _ g0, hg _ _ g1, hg _ _ g2, hg _ _ g3, h1.keep hs h, ?_⟩
  rcases h2 with h2 | ⟨b, h3, h4, h5, h6⟩
  · exact .inl h2
  · obtain ⟨h7, h8⟩ := h b h4 h5
    exact .inr ⟨b, h3, h7, by omega, hP _ _ (row_of_block h8 0 4) h6⟩

theorem oneE_keep {w w' : World} {ok ok' : Nat → Prop} (hs : w.heap.size ≤ w'.heap.size) (h : ∀ b, ok b → b < w.heap.size → ok' b ∧ w'.heap[b]? = w.heap[b]?) {x : F1} {g g' : Nat → Option Value} (hg : Keeps g g') (h0 : One (HdE w ok) x g) : One (HdE w' ok') x g' :=
  HdE.keep hs h _ _ _ _ _ _ hg (fun _ _ hc hA => hA.map Keeps (HdE.keep hs h) hc) h0

def upE (w : World) (ok : Nat → Prop) (l : FL) (k : Nat) (flat : List Value) : Prop := ∀ (e : Nat) y, e < k → (toL l)[e]? = some y → One (HdE w ok) y (fun i => flat[e * 4 + i]?)

theorem upE_zero (w : World) (ok : Nat → Prop) (l : FL) (flat : List Value) : upE w ok l 0 flat := fun e y h => by omega

theorem upE_keep {w w' : World} {ok ok' : Nat → Prop} {l : FL} {k : Nat} {flat : List Value} (h : upE w ok l k flat) (hs : w.heap.size ≤ w'.heap.size) (hk : ∀ b, ok b → b < w.heap.size → ok' b ∧ w'.heap[b]? = w.heap[b]?) : upE w' ok' l k flat :=
  fun e y he hy => oneE_keep hs hk (keeps_refl _) (h e y he hy)

theorem upD_keep {w w' : World} {ok ok' : Nat → Prop} {l : TL} {k : Nat} {flat : List Value} (h : upD w ok l k flat) (hs : w.heap.size ≤ w'.heap.size) (hk : ∀ b, ok b → b < w.heap.size → ok' b ∧ w'.heap[b]? = w.heap[b]?) : upD w' ok' l k flat :=
  fun e y he hy => oneD_keep hs hk (keeps_refl _) (h e y he hy)

theorem upE_succ {w w' : World} {ok ok' : Nat → Prop} {l : FL} {k : Nat} {flat cs : List Value} {y : F1} (h : upE w ok l k flat) (hlen : flat.length = k * 4) (hs : w.heap.size ≤ w'.heap.size) (hk : ∀ b, ok b → b < w.heap.size → ok' b ∧ w'.heap[b]? = w.heap[b]?)
    (hy : (toL l)[k]? = some y) (hcs : One (HdE w' ok') y (ds cs)) : upE w' ok' l (k + 1) (flat ++ cs) := fun e z he hz => by
  rcases Nat.lt_or_ge e k with h' | h'
  · refine oneE_keep hs hk (fun i v hv => ?_) (h e z h' hz)
    rw [List.getElem?_append_left (List.getElem?_eq_some_iff.1 hv).1]
    exact hv
  · obtain rfl : e = k := by omega
    rw [hy] at hz
    obtain rfl := Option.some.inj hz
    have e1 : (fun i => (flat ++ cs)[e * 4 + i]?) = ds cs := by
      funext i
      rw [List.getElem?_append_right (by omega), show e * 4 + i - flat.length = i by omega]
    rw [e1]
    exact hcs

theorem upE_all {w : World} {ok ok' : Nat → Prop} {l : FL} {k g cap B : Nat} {flat : List Value} (h : upE w ok l k flat) (hk : len l ≤ k) (ho : w.ownsRow B 45 4 (.slice (some ⟨g, 0, none⟩) k cap) k flat) (hok : ∀ b, ok b → ok' b) : All (HdE w ok') l (row w g 0 4) := by
  refine All.mk fun e y hy => ?_
  refine oneE_keep (Nat.le_refl _) (fun b hb _ => ⟨hok b hb, rfl⟩) (fun i v hv => ?_) (h e y (by have := toL_lt hy; omega) hy)
  have := ho.cells (g := g) rfl _ _ hv
  rw [Go.WideShapes.add_plain] at this
  simpa [row] using this

theorem ftext_head (y : F1) (hwf : wfF1 y) : ∃ c r, ftext y = c :: r ∧ c.toNat ≠ 41 ∧ ((48 ≤ c.toNat ∧ c.toNat ≤ 57) ∨ c.toNat = 45) := by
  obtain ⟨⟨op, s, sh, args⟩, l⟩ := y
  simp only [ftext, textF1]
  by_cases h0 : op < 0
  · obtain ⟨u, rfl⟩ : ∃ u : Nat, op = -(u : Int) := ⟨op.natAbs, by omega⟩
    rw [Lib.itoa_neg u (by omega)]
    exact ⟨45, _, rfl, by decide, .inr rfl⟩
  · obtain ⟨u, rfl⟩ : ∃ u : Nat, op = (u : Int) := ⟨op.toNat, by omega⟩
    rw [Lib.itoa_nonneg u]
    obtain ⟨c, hc, hcv⟩ := digit_at (u := u) (k := 0) (Lib.nDigits_pos u)
    have hd := dig_lt u 0
    cases hl : Lib.decDigits u with
    | nil => rw [hl] at hc; simp at hc
    | cons c' r =>
      rw [hl] at hc
      obtain rfl : c' = c := by simpa using hc
      exact ⟨c', _, rfl, by omega, .inl (by omega)⟩

end Go.Proofs.Qxb6601988aDoor
