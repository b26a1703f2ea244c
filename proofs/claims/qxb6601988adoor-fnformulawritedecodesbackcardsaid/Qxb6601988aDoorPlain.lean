/-
  PLAIN: forests of terms and of formulas (the guide's binary tree: first child, next sibling), their text, their cost, what makes their names readable. What lies at each node, said once for all relations ('All').
-/
import Derived.Deep.Trees
import Derived.Lib.ItoaLen
import Derived.Lib.ItoaMem
namespace Go.Proofs.Qxb6601988aDoor
open Go.Deep (BT)

section
variable {α γ : Type}

def len : BT α → Nat
  | .nil => 0
  | .node _ _ _ _ r => len r + 1

def toL : BT α → List (α × BT α)
  | .nil => []
  | .node _ _ a l r => (a, l) :: toL r

theorem toL_length (t : BT α) : (toL t).length = len t := by
  induction t with
  | nil => rfl
  | node _ _ a l r _ ih => simp [toL, len, ih]

theorem toL_at {t : BT α} {k : Nat} (h : k < len t) : ∃ x, (toL t)[k]? = some x := ⟨_, List.getElem?_eq_getElem (by rw [toL_length]; exact h)⟩

theorem toL_lt {t : BT α} {k : Nat} {x : α × BT α} (h : (toL t)[k]? = some x) : k < len t := by
  rw [← toL_length]
  exact (List.getElem?_eq_some_iff.1 h).1

/-- The root's law, given it for its children. -/
theorem ind_all {P : α × BT α → Prop} (h : ∀ a l, (∀ (k : Nat) x, (toL l)[k]? = some x → P x) → P (a, l)) (t : BT α) : ∀ (k : Nat) x, (toL t)[k]? = some x → P x := by
  induction t with
  | nil => intro k x hx; simp [toL] at hx
  | node _ _ a l r ihl ihr =>
    intro k x hx
    cases k with
    | zero =>
      simp [toL] at hx
      subst hx
      exact h a l ihl
    | succ k => exact ihr k x (by simpa [toL] using hx)

theorem ind_one {P : α × BT α → Prop} (h : ∀ a l, (∀ (k : Nat) x, (toL l)[k]? = some x → P x) → P (a, l)) : ∀ x, P x := fun ⟨a, l⟩ => h a l (ind_all h l)

/-- At each node of a forest: what lies at its place in the row. -/
def All (Hd : α → Nat → ((Nat → γ) → Prop) → γ → Prop) : BT α → (Nat → γ) → Prop
  | .nil, _ => True
  | .node _ _ a l r, c => Hd a (len l) (All Hd l) (c 0) ∧ All Hd r (fun k => c (k + 1))

abbrev One (Hd : α → Nat → ((Nat → γ) → Prop) → γ → Prop) (x : α × BT α) (g : γ) : Prop := Hd x.1 (len x.2) (All Hd x.2) g

theorem All.get {Hd : α → Nat → ((Nat → γ) → Prop) → γ → Prop} {t : BT α} : ∀ {c : Nat → γ}, All Hd t c → ∀ {k : Nat} {x}, (toL t)[k]? = some x → One Hd x (c k) := by
  induction t with
  | nil => intro c _ k x hx; simp [toL] at hx
  | node _ _ a l r ihl ihr =>
    intro c h k x hx
    cases k with
    | zero =>
      simp [toL] at hx
      subst hx
      exact h.1
    | succ k => exact ihr h.2 (k := k) (by simpa [toL] using hx)

theorem All.mk {Hd : α → Nat → ((Nat → γ) → Prop) → γ → Prop} {t : BT α} : ∀ {c : Nat → γ}, (∀ (k : Nat) x, (toL t)[k]? = some x → One Hd x (c k)) → All Hd t c := by
  induction t with
  | nil => intro c _; trivial
  | node _ _ a l r ihl ihr =>
    intro c h
    exact ⟨h 0 (a, l) (by simp [toL]), ihr fun k x hx => h (k + 1) x (by simpa [toL] using hx)⟩

theorem All.map {Hd Hd' : α → Nat → ((Nat → γ) → Prop) → γ → Prop} (R : γ → γ → Prop)
    (h : ∀ a n (P P' : (Nat → γ) → Prop) g g', R g g' → (∀ c c', (∀ k, R (c k) (c' k)) → P c → P' c') → Hd a n P g → Hd' a n P' g') {t : BT α} :
    ∀ {c c' : Nat → γ}, (∀ k, R (c k) (c' k)) → All Hd t c → All Hd' t c' := by
  induction t with
  | nil => intro c c' _ _; trivial
  | node _ _ a l r ihl ihr =>
    intro c c' hR hA
    exact ⟨h a _ _ _ _ _ (hR 0) (fun c c' hk hp => ihl hk hp) hA.1, ihr (fun k => hR (k + 1)) hA.2⟩

end

abbrev TL := BT (Option ByteArray × Int)
abbrev FL := BT (Int × Option ByteArray × Bool × TL)

abbrev T1 := (Option ByteArray × Int) × TL
abbrev F1 := (Int × Option ByteArray × Bool × TL) × FL

/-! ### cost -/

def symCost : Option ByteArray → Nat
  | none => 0
  | some nm => 16 + nm.size

def costT : TL → Nat
  | .nil => 0
  | .node _ _ a l r => (40 + symCost a.1 + costT l) + costT r

def cost1 (x : T1) : Nat := 40 + symCost x.1.1 + costT x.2

def costF : FL → Nat
  | .nil => 0
  | .node _ _ a l r => (72 + symCost a.2.1 + costT a.2.2.2 + costF l) + costF r

def costF1 (x : F1) : Nat := 72 + symCost x.1.2.1 + costT x.1.2.2.2 + costF x.2

theorem costT_sum (t : TL) : costT t = ((toL t).map cost1).sum := by
  induction t with
  | nil => rfl
  | node _ _ a l r _ ih => simp [costT, toL, ih, cost1]

theorem costF_sum (t : FL) : costF t = ((toL t).map costF1).sum := by
  induction t with
  | nil => rfl
  | node _ _ a l r _ ih => simp [costF, toL, ih, costF1]

theorem sum_take_succ {β : Type} (f : β → Nat) {l : List β} {k : Nat} {x : β} (h : l[k]? = some x) : ((l.take (k + 1)).map f).sum = ((l.take k).map f).sum + f x := by
  rw [List.take_add_one, h]
  simp

theorem len_le_cost (t : TL) : len t * 40 ≤ costT t := by
  induction t with
  | nil => simp [len]
  | node _ _ a l r _ ih => simp [len, costT]; omega

theorem lenF_le_cost (t : FL) : len t * 72 ≤ costF t := by
  induction t with
  | nil => simp [len]
  | node _ _ a l r _ ih => simp [len, costF]; omega

/-! ### text -/

def nameOf : Option ByteArray → List UInt8
  | none => []
  | some nm => nm.data.toList

def text1 (s : Option ByteArray) (v : Int) (sub : List UInt8) : List UInt8 :=
  match s with
  | none => 36 :: Lib.itoa v
  | some nm => nm.data.toList ++ [40] ++ sub ++ [41]

def textT : TL → List UInt8
  | .nil => []
  | .node _ _ a l r => text1 a.1 a.2 (textT l) ++ 44 :: textT r

abbrev text (x : T1) : List UInt8 := text1 x.1.1 x.1.2 (textT x.2)

def textF1 (op : Int) (s : Option ByteArray) (a x : List UInt8) : List UInt8 := Lib.itoa op ++ nameOf s ++ [40] ++ a ++ x ++ [41]

def textF : FL → List UInt8
  | .nil => []
  | .node _ _ a l r => textF1 a.1 a.2.1 (textT a.2.2.2) (textF l) ++ 44 :: textF r

abbrev ftext (x : F1) : List UInt8 := textF1 x.1.1 x.1.2.1 (textT x.1.2.2.2) (textF x.2)

theorem textT_join (t : TL) : textT t = ((toL t).map fun x => text x ++ [44]).flatten := by
  induction t with
  | nil => rfl
  | node _ _ a l r _ ih => simp [textT, toL, ih]

theorem textF_join (t : FL) : textF t = ((toL t).map fun x => ftext x ++ [44]).flatten := by
  induction t with
  | nil => rfl
  | node _ _ a l r _ ih => simp [textF, toL, ih]

theorem join_take_succ {β : Type} (f : β → List UInt8) {l : List β} {k : Nat} {x : β} (h : l[k]? = some x) : ((l.take (k + 1)).map f).flatten = ((l.take k).map f).flatten ++ f x := by
  rw [List.take_add_one, h]
  simp

/-! ### what numbers are -/
def wfI (v : Int) : Prop := -9223372036854775808 ≤ v ∧ v ≤ 9223372036854775807

def wfT : TL → Prop
  | .nil => True
  | .node _ _ a l r => wfI a.2 ∧ wfT l ∧ wfT r

def wfF : FL → Prop
  | .nil => True
  | .node _ _ a l r => wfI a.1 ∧ wfT a.2.2.2 ∧ wfF l ∧ wfF r

theorem size_toList (b : ByteArray) : b.data.toList.length = b.size := by rw [Array.length_toList]; rfl

theorem textT_le (t : TL) : wfT t → (textT t).length ≤ costT t := by
  induction t with
  | nil => intro _; simp [textT]
  | node _ _ a l r ihl ihr =>
    rintro ⟨h, hl, hr⟩
    have h1 := ihl hl
    have h2 := ihr hr
    obtain ⟨s, v⟩ := a
    cases s with
    | none =>
      have := Lib.itoa_length_le v h.1 h.2
      simp only [textT, text1, costT, symCost, List.length_append, List.length_cons]
      omega
    | some nm =>
      have := size_toList nm
      simp only [textT, text1, costT, symCost, List.length_append, List.length_cons, List.length_nil]
      omega

theorem text_le (x : T1) (h : wfI x.1.2) (hl : wfT x.2) : (text x).length ≤ cost1 x := by
  have := textT_le (.node 0 0 x.1 x.2 .nil) ⟨h, hl, trivial⟩
  simp only [textT, costT, List.length_append, List.length_cons, List.length_nil] at this
  simp only [text, cost1]
  omega

theorem textF_le (t : FL) : wfF t → (textF t).length ≤ costF t := by
  induction t with
  | nil => intro _; simp [textF]
  | node _ _ a l r ihl ihr =>
    rintro ⟨h, ha, hl, hr⟩
    have h1 := ihl hl
    have h2 := ihr hr
    obtain ⟨op, s, sh, args⟩ := a
    have h3 := textT_le args ha
    have := Lib.itoa_length_le op h.1 h.2
    cases s with
    | none =>
      simp only [textF, textF1, nameOf, costF, symCost, List.length_append, List.length_cons, List.length_nil]
      omega
    | some nm =>
      have := size_toList nm
      simp only [textF, textF1, nameOf, costF, symCost, List.length_append, List.length_cons, List.length_nil]
      omega

theorem ftext_le (x : F1) (h : wfF (.node 0 0 x.1 x.2 .nil)) : (ftext x).length ≤ costF1 x := by
  have := textF_le (.node 0 0 x.1 x.2 .nil) h
  simp only [textF, costF, List.length_append, List.length_cons, List.length_nil] at this
  simp only [ftext, costF1]
  omega

/-! ### names that can be read back -/
def noParen (l : List UInt8) : Prop := ∀ c ∈ l, c.toNat ≠ 40
def nameF (l : List UInt8) : Prop := noParen l ∧ ∀ c, l.head? = some c → ¬ (48 ≤ c.toNat ∧ c.toNat ≤ 57)
def nameT (l : List UInt8) : Prop := nameF l ∧ ∀ c, l.head? = some c → c.toNat ≠ 45 ∧ c.toNat ≠ 36 ∧ c.toNat ≠ 41

def okT : TL → Prop
  | .nil => True
  | .node _ _ a l r => (∀ nm, a.1 = some nm → nameT nm.data.toList ∧ okT l) ∧ okT r

def ok1 (x : T1) : Prop := ∀ nm, x.1.1 = some nm → nameT nm.data.toList ∧ okT x.2

def okF : FL → Prop
  | .nil => True
  | .node _ _ a l r => ((∀ nm, a.2.1 = some nm → nameF nm.data.toList) ∧ okT a.2.2.2 ∧ okF l) ∧ okF r

def okF1 (x : F1) : Prop := (∀ nm, x.1.2.1 = some nm → nameF nm.data.toList) ∧ okT x.1.2.2.2 ∧ okF x.2

theorem okT_iff (t : TL) : okT t ↔ ∀ (k : Nat) x, (toL t)[k]? = some x → ok1 x := by
  induction t with
  | nil => simp [okT, toL]
  | node _ _ a l r _ ih =>
    refine ⟨fun h k x hx => ?_, fun h => ⟨h 0 (a, l) (by simp [toL]), ih.2 fun k x hx => h (k + 1) x (by simpa [toL] using hx)⟩⟩
    cases k with
    | zero => simp [toL] at hx; subst hx; exact h.1
    | succ k => exact ih.1 h.2 k x (by simpa [toL] using hx)

theorem okF_iff (t : FL) : okF t ↔ ∀ (k : Nat) x, (toL t)[k]? = some x → okF1 x := by
  induction t with
  | nil => simp [okF, toL]
  | node _ _ a l r _ ih =>
    refine ⟨fun h k x hx => ?_, fun h => ⟨h 0 (a, l) (by simp [toL]), ih.2 fun k x hx => h (k + 1) x (by simpa [toL] using hx)⟩⟩
    cases k with
    | zero => simp [toL] at hx; subst hx; exact h.1
    | succ k => exact ih.1 h.2 k x (by simpa [toL] using hx)

end Go.Proofs.Qxb6601988aDoor
