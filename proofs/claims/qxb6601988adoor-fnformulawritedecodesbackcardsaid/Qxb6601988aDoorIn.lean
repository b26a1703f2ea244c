/-
  What came in: a term, a formula, lying in memory.
-/
import Derived.Test.Qxb6601988aDoorRows
import Derived.Test.Qxb6601988aDoorPlain
import Derived.WalkKit
import Derived.WalkSpells
import Derived.WalkLawsBesides
import Derived.Deep.LoopGhost
namespace Go.Proofs.Qxb6601988aDoor
open Go.RowKit
open Go.Deep (BT)

theorem hid {p : Prop} (h : p) : Hid p := h

def SymIn (w : World) (p : Option Addr) (s : Option ByteArray) : Prop :=
  (p = none ∧ s = none) ∨ ∃ nm pb po, s = some nm ∧ p = some ⟨pb, po, none⟩ ∧ w.cell? ⟨pb, po, none⟩ = some (.string nm) ∧ nm.size ≤ maxLen

theorem SymIn.below {w w' : World} {p : Option Addr} {s : Option ByteArray} (h : SymIn w p s) (hb : Below w.heap.size w w') : SymIn w' p s := by
  rcases h with h | ⟨nm, pb, po, h1, h2, h3, h4⟩
  · exact .inl h
  · exact .inr ⟨nm, pb, po, h1, h2, (hb.cell (World.block_lt_of_cell? _ _ h3)).trans h3, h4⟩

def row (w : World) (b o c : Nat) (k i : Nat) : Option Value := w.cell? ⟨b, o + k * c + i, none⟩

def Keeps (g g' : Nat → Option Value) : Prop := ∀ i v, g i = some v → g' i = some v

theorem row_keeps {w w' : World} (hb : Below w.heap.size w w') (b o c k : Nat) : Keeps (row w b o c k) (row w' b o c k) := fun _ _ h => (hb.cell (World.block_lt_of_cell? _ _ h)).trans h

/-- A term's three cells. -/
def HdT (w : World) (a : Option ByteArray × Int) (n : Nat) (P : (Nat → Nat → Option Value) → Prop) (g : Nat → Option Value) : Prop :=
  ∃ p sl cap, g 0 = some (.pointer p) ∧ g 1 = some (.int .i64 a.2) ∧ g 2 = some (.slice sl n cap) ∧ SymIn w p a.1 ∧ wfI a.2 ∧ n ≤ maxLen ∧ ∃ b o, (n = 0 ∨ sl = some ⟨b, o, none⟩) ∧ P (row w b o 3)

/-- A term as it is handed in by value. -/
structure InT (w : World) (x : T1) (p sl : Option Addr) (n cap : Nat) : Prop where
  sym : SymIn w p x.1.1
  wf : wfI x.1.2
  len : n = len x.2
  max : n ≤ maxLen
  sub : ∃ b o, (n = 0 ∨ sl = some ⟨b, o, none⟩) ∧ All (HdT w) x.2 (row w b o 3)

theorem HdT.keep {w w' : World} (hb : Below w.heap.size w w') (a : Option ByteArray × Int) (n : Nat) (P P' : (Nat → Nat → Option Value) → Prop) (g g' : Nat → Option Value) (hg : Keeps g g')
    (hP : ∀ c c', (∀ k, Keeps (c k) (c' k)) → P c → P' c') (h : HdT w a n P g) : HdT w' a n P' g' := by
  obtain ⟨p, sl, cap, h0, h1, h2, h3, h4, h5, b, o, h6, h7⟩ := h
  exact ⟨p, sl, cap, hg _ _ h0, hg _ _ h1, hg _ _ h2, h3.below hb, h4, h5, b, o, h6, hP _ _ (row_keeps hb b o 3) h7⟩

theorem allT_below {w w' : World} {t : TL} {b o : Nat} (h : All (HdT w) t (row w b o 3)) (hb : Below w.heap.size w w') : All (HdT w') t (row w' b o 3) :=
  h.map Keeps (HdT.keep hb) (row_keeps hb b o 3)

theorem InT.below {w w' : World} {x : T1} {p sl : Option Addr} {n cap : Nat} (h : InT w x p sl n cap) (hb : Below w.heap.size w w') : InT w' x p sl n cap := by
  obtain ⟨b, o, h1, h2⟩ := h.sub
  exact ⟨h.sym.below hb, h.wf, h.len, h.max, b, o, h1, allT_below h2 hb⟩

/-- What lies at place k of a row of terms. -/
theorem allT_at {w : World} {t : TL} {b o k : Nat} {y : T1} (h : All (HdT w) t (row w b o 3)) (hk : (toL t)[k]? = some y) :
    ∃ p sl n cap, w.cell? ⟨b, o + k * 3, none⟩ = some (.pointer p) ∧ w.cell? ⟨b, o + k * 3 + 1, none⟩ = some (.int .i64 y.1.2) ∧ w.cell? ⟨b, o + k * 3 + 2, none⟩ = some (.slice sl n cap) ∧ InT w y p sl n cap := by
  obtain ⟨p, sl, cap, h0, h1, h2, h3, h4, h5, b', o', h6, h7⟩ := h.get hk
  exact ⟨p, sl, _, cap, h0, h1, h2, h3, h4, rfl, h5, b', o', h6, h7⟩

theorem InT.at {w : World} {x : T1} {p sl : Option Addr} {n cap : Nat} (h : InT w x p sl n cap) {k : Nat} {y : T1} (hk : (toL x.2)[k]? = some y) :
    ∃ b o p' sl' n' cap', sl = some ⟨b, o, none⟩ ∧ w.cell? ⟨b, o + k * 3, none⟩ = some (.pointer p') ∧ w.cell? ⟨b, o + k * 3 + 1, none⟩ = some (.int .i64 y.1.2) ∧ w.cell? ⟨b, o + k * 3 + 2, none⟩ = some (.slice sl' n' cap') ∧ InT w y p' sl' n' cap' := by
  obtain ⟨b, o, h1, h2⟩ := h.sub
  have hlt := toL_lt hk
  have hne : sl = some ⟨b, o, none⟩ := by
    rcases h1 with h1 | h1
    · have := h.len; omega
    · exact h1
  obtain ⟨p', sl', n', cap', r⟩ := allT_at h2 hk
  exact ⟨b, o, p', sl', n', cap', hne, r⟩

theorem InT.wfT {w : World} : ∀ x : T1, ∀ {p sl : Option Addr} {n cap : Nat}, InT w x p sl n cap → Qxb6601988aDoor.wfT x.2 := by
  have key : ∀ t : TL, ∀ c, All (HdT w) t c → Qxb6601988aDoor.wfT t := by
    intro t
    induction t with
    | nil => intro c _; trivial
    | node _ _ a l r ihl ihr =>
      intro c h
      obtain ⟨_, _, _, _, _, _, _, h4, _, b, o, _, h7⟩ := h.1
      exact ⟨h4, ihl _ h7, ihr _ h.2⟩
  intro x p sl n cap h
  obtain ⟨b, o, _, h2⟩ := h.sub
  exact key _ _ h2

/-- A formula's five cells. -/
def HdF (w : World) (a : Int × Option ByteArray × Bool × TL) (n : Nat) (P : (Nat → Nat → Option Value) → Prop) (g : Nat → Option Value) : Prop :=
  ∃ p sl m cap xl xcap, g 0 = some (.int .i64 a.1) ∧ g 1 = some (.pointer p) ∧ g 2 = some (.slice sl m cap) ∧ g 3 = some (.slice xl n xcap) ∧ g 4 = some (.bool a.2.2.1) ∧
    SymIn w p a.2.1 ∧ wfI a.1 ∧ m = len a.2.2.2 ∧ m ≤ maxLen ∧ n ≤ maxLen ∧ (∃ b o, (m = 0 ∨ sl = some ⟨b, o, none⟩) ∧ All (HdT w) a.2.2.2 (row w b o 3)) ∧ ∃ b o, (n = 0 ∨ xl = some ⟨b, o, none⟩) ∧ P (row w b o 5)

structure InF (w : World) (x : F1) (p sl : Option Addr) (m cap : Nat) (xl : Option Addr) (n xcap : Nat) : Prop where
  sym : SymIn w p x.1.2.1
  wf : wfI x.1.1
  lenA : m = len x.1.2.2.2
  maxA : m ≤ maxLen
  lenX : n = len x.2
  maxX : n ≤ maxLen
  subA : ∃ b o, (m = 0 ∨ sl = some ⟨b, o, none⟩) ∧ All (HdT w) x.1.2.2.2 (row w b o 3)
  subX : ∃ b o, (n = 0 ∨ xl = some ⟨b, o, none⟩) ∧ All (HdF w) x.2 (row w b o 5)

theorem HdF.keep {w w' : World} (hb : Below w.heap.size w w') (a : Int × Option ByteArray × Bool × TL) (n : Nat) (P P' : (Nat → Nat → Option Value) → Prop) (g g' : Nat → Option Value) (hg : Keeps g g')
    (hP : ∀ c c', (∀ k, Keeps (c k) (c' k)) → P c → P' c') (h : HdF w a n P g) : HdF w' a n P' g' := by
  obtain ⟨p, sl, m, cap, xl, xcap, h0, h1, h2, h3, h4, h5, h6, h7, h8, h9, ⟨b, o, h10, h11⟩, b', o', h12, h13⟩ := h
  exact ⟨p, sl, m, cap, xl, xcap, hg _ _ h0, hg _ _ h1, hg _ _ h2, hg _ _ h3, hg _ _ h4, h5.below hb, h6, h7, h8, h9, ⟨b, o, h10, allT_below h11 hb⟩, b', o', h12, hP _ _ (row_keeps hb b' o' 5) h13⟩

theorem InF.below {w w' : World} {x : F1} {p sl : Option Addr} {m cap : Nat} {xl : Option Addr} {n xcap : Nat} (h : InF w x p sl m cap xl n xcap) (hb : Below w.heap.size w w') : InF w' x p sl m cap xl n xcap := by
  obtain ⟨b, o, h1, h2⟩ := h.subA
  obtain ⟨b', o', h3, h4⟩ := h.subX
  exact ⟨h.sym.below hb, h.wf, h.lenA, h.maxA, h.lenX, h.maxX, ⟨b, o, h1, allT_below h2 hb⟩, b', o', h3, h4.map Keeps (HdF.keep hb) (row_keeps hb b' o' 5)⟩

theorem InF.atA {w : World} {x : F1} {p sl : Option Addr} {m cap : Nat} {xl : Option Addr} {n xcap : Nat} (h : InF w x p sl m cap xl n xcap) {k : Nat} {y : T1} (hk : (toL x.1.2.2.2)[k]? = some y) :
    ∃ b o p' sl' n' cap', sl = some ⟨b, o, none⟩ ∧ w.cell? ⟨b, o + k * 3, none⟩ = some (.pointer p') ∧ w.cell? ⟨b, o + k * 3 + 1, none⟩ = some (.int .i64 y.1.2) ∧ w.cell? ⟨b, o + k * 3 + 2, none⟩ = some (.slice sl' n' cap') ∧ InT w y p' sl' n' cap' := by
  obtain ⟨b, o, h1, h2⟩ := h.subA
  have hlt := toL_lt hk
  have hne : sl = some ⟨b, o, none⟩ := by
    rcases h1 with h1 | h1
    · have := h.lenA; omega
    · exact h1
  obtain ⟨p', sl', n', cap', r⟩ := allT_at h2 hk
  exact ⟨b, o, p', sl', n', cap', hne, r⟩

theorem InF.atX {w : World} {x : F1} {p sl : Option Addr} {m cap : Nat} {xl : Option Addr} {n xcap : Nat} (h : InF w x p sl m cap xl n xcap) {k : Nat} {y : F1} (hk : (toL x.2)[k]? = some y) :
    ∃ b o p' sl' m' cap' xl' n' xcap', xl = some ⟨b, o, none⟩ ∧ w.cell? ⟨b, o + k * 5, none⟩ = some (.int .i64 y.1.1) ∧ w.cell? ⟨b, o + k * 5 + 1, none⟩ = some (.pointer p') ∧ w.cell? ⟨b, o + k * 5 + 2, none⟩ = some (.slice sl' m' cap') ∧
      w.cell? ⟨b, o + k * 5 + 3, none⟩ = some (.slice xl' n' xcap') ∧ w.cell? ⟨b, o + k * 5 + 4, none⟩ = some (.bool y.1.2.2.1) ∧ InF w y p' sl' m' cap' xl' n' xcap' := by
  obtain ⟨b, o, h1, h2⟩ := h.subX
  have hlt := toL_lt hk
  have hne : xl = some ⟨b, o, none⟩ := by
    rcases h1 with h1 | h1
    · have := h.lenX; omega
    · exact h1
  obtain ⟨p', sl', m', cap', xl', xcap', h0, h1, h2, h3, h4, h5, h6, h7, h8, h9, h10, h11⟩ := h2.get hk
  exact ⟨b, o, p', sl', m', cap', xl', _, xcap', hne, h0, h1, h2, h3, h4, h5, h6, h7, h8, rfl, h9, h10, h11⟩

theorem InF.wfF {w : World} : ∀ x : F1, ∀ {p sl : Option Addr} {m cap : Nat} {xl : Option Addr} {n xcap : Nat}, InF w x p sl m cap xl n xcap → Qxb6601988aDoor.wfF (.node 0 0 x.1 x.2 .nil) := by
  have keyT : ∀ t : TL, ∀ c, All (HdT w) t c → Qxb6601988aDoor.wfT t := by
    intro t
    induction t with
    | nil => intro c _; trivial
    | node _ _ a l r ihl ihr =>
      intro c h
      obtain ⟨_, _, _, _, _, _, _, h4, _, b, o, _, h7⟩ := h.1
      exact ⟨h4, ihl _ h7, ihr _ h.2⟩
  have key : ∀ t : FL, ∀ c, All (HdF w) t c → Qxb6601988aDoor.wfF t := by
    intro t
    induction t with
    | nil => intro c _; trivial
    | node _ _ a l r ihl ihr =>
      intro c h
      obtain ⟨_, _, _, _, _, _, _, _, _, _, _, _, h6, _, _, _, ⟨_, _, _, h11⟩, _, _, _, h13⟩ := h.1
      exact ⟨h6, keyT _ _ h11, ihl _ h13, ihr _ h.2⟩
  intro x p sl m cap xl n xcap h
  obtain ⟨b, o, _, h2⟩ := h.subA
  obtain ⟨b', o', _, h4⟩ := h.subX
  exact ⟨h.wf, keyT _ _ h2, key _ _ h4, trivial⟩

end Go.Proofs.Qxb6601988aDoor
