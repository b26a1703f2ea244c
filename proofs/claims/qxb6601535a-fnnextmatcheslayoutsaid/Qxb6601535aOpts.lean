/-
  The options in memory: seven cells each.
-/
import Derived.Test.Qxb6601535aParts
import Derived.Test.Qxb6601535aModel
import Derived.Test.Qxb6601535aBits
import Derived.OpenShut
namespace Go.Proofs.Qxb6601535a
open Go.RowKit

/-- A row told by its cells' function. -/
def rowV (n : Nat) (F : Nat → Value) : List Value := (List.range n).map F

theorem rowV_length (n : Nat) (F : Nat → Value) : (rowV n F).length = n := by simp [rowV]
theorem rowV_at {n i : Nat} (F : Nat → Value) (hi : i < n) : (rowV n F)[i]? = some (F i) := by simp [rowV, hi]
theorem rowV_congr {n : Nat} {F G : Nat → Value} (h : ∀ i, i < n → F i = G i) : rowV n F = rowV n G := by
  unfold rowV
  exact List.map_congr_left fun i hi => h i (by simpa using hi)
theorem rowV_set {n i : Nat} (F G : Nat → Value) (v : Value) (h1 : G i = v) (h2 : ∀ j, j < n → j ≠ i → G j = F j) : (rowV n F).set i v = rowV n G := by
  apply List.ext_getElem?
  intro j
  by_cases hj : j < n
  · by_cases e : i = j
    · subst e
      rw [List.getElem?_set_self (by rw [rowV_length]; exact hj), rowV_at G hj, h1]
    · rw [List.getElem?_set_ne e, rowV_at F hj, rowV_at G hj, h2 j hj (fun h => e h.symm)]
  · rw [List.getElem?_eq_none (by rw [List.length_set, rowV_length]; omega), List.getElem?_eq_none (by rw [rowV_length]; omega)]

/-- Cell p of the options: option p / 7; its code and its link. -/
def optF (cd nx : Nat → Int) (p : Nat) : Value :=
  if p % 7 = 0 then .int .u64 (cd (p / 7)) else if p % 7 = 5 then .int .i64 (nx (p / 7)) else .int .i64 0

theorem optF_0 (cd nx : Nat → Int) (i : Nat) : optF cd nx (i * 7) = .int .u64 (cd i) := by
  unfold optF
  rw [if_pos (by omega), show i * 7 / 7 = i by omega]
theorem optF_5 (cd nx : Nat → Int) (i : Nat) : optF cd nx (i * 7 + 5) = .int .i64 (nx i) := by
  unfold optF
  rw [if_neg (by omega), if_pos (by omega), show (i * 7 + 5) / 7 = i by omega]
theorem optF_z (cd nx : Nat → Int) (i r : Nat) (h : r = 1 ∨ r = 2 ∨ r = 3 ∨ r = 4 ∨ r = 6) : optF cd nx (i * 7 + r) = .int .i64 0 := by
  unfold optF
  rw [if_neg (by omega), if_neg (by omega)]

/-- n options in block g. -/
def Opts (w : World) (g n : Nat) (cd nx : Nat → Int) : Prop := RowAt w 60 g 0 (n * 7) (rowV (n * 7) (optF cd nx))

section
variable {w : World} {g n : Nat} {cd nx : Nat → Int}

theorem Opts.code (h : Opts w g n cd nx) {i : Nat} (hi : i < n) : w.cell? ⟨g, i * 7, none⟩ = some (.int .u64 (cd i)) := by
  have h1 := RowAt.cell_some h (rowV_at (optF cd nx) (i := i * 7) (n := n * 7) (by omega))
  rwa [Nat.zero_add, optF_0] at h1
theorem Opts.next (h : Opts w g n cd nx) {i : Nat} (hi : i < n) : w.cell? ⟨g, i * 7 + 5, none⟩ = some (.int .i64 (nx i)) := by
  have h1 := RowAt.cell_some h (rowV_at (optF cd nx) (i := i * 7 + 5) (n := n * 7) (by omega))
  rwa [Nat.zero_add, optF_5] at h1
theorem Opts.rest (h : Opts w g n cd nx) {i : Nat} (hi : i < n) (r : Nat) (hr : r = 1 ∨ r = 2 ∨ r = 3 ∨ r = 4 ∨ r = 6) : w.cell? ⟨g, i * 7 + r, none⟩ = some (.int .i64 0) := by
  have h1 := RowAt.cell_some h (rowV_at (optF cd nx) (i := i * 7 + r) (n := n * 7) (by omega))
  rwa [Nat.zero_add, optF_z cd nx i r hr] at h1
theorem Opts.setCode (h : Opts w g n cd nx) {i : Nat} (v : Int) (cd' : Nat → Int) (h1 : cd' i = v) (h2 : ∀ j, j ≠ i → cd' j = cd j) : Opts (w.setCell ⟨g, i * 7, none⟩ (.int .u64 v)) g n cd' nx := by
  have hst := RowAt.stored h (i * 7) (.int .u64 v)
  rw [Nat.zero_add, rowV_set _ (optF cd' nx) (.int .u64 v) (by rw [optF_0, h1]) (fun j _ hne => by
    unfold optF
    by_cases e : j % 7 = 0
    · rw [if_pos e, if_pos e, h2 (j / 7) (by omega)]
    · rw [if_neg e, if_neg e])] at hst
  exact hst
theorem Opts.setNext (h : Opts w g n cd nx) {i : Nat} (v : Int) (nx' : Nat → Int) (h1 : nx' i = v) (h2 : ∀ j, j ≠ i → nx' j = nx j) : Opts (w.setCell ⟨g, i * 7 + 5, none⟩ (.int .i64 v)) g n cd nx' := by
  have hst := RowAt.stored h (i * 7 + 5) (.int .i64 v)
  rw [Nat.zero_add, rowV_set _ (optF cd nx') (.int .i64 v) (by rw [optF_5, h1]) (fun j _ hne => by
    unfold optF
    by_cases e : j % 7 = 0
    · rw [if_pos e, if_pos e]
    · by_cases e5 : j % 7 = 5
      · rw [if_neg e, if_neg e, if_pos e5, if_pos e5, h2 (j / 7) (by omega)]
      · rw [if_neg e, if_neg e, if_neg e5, if_neg e5])] at hst
  exact hst
theorem Opts.congr {cd' nx' : Nat → Int} (h : Opts w g n cd nx) (h1 : ∀ i, i < n → cd i = cd' i) (h2 : ∀ i, i < n → nx i = nx' i) : Opts w g n cd' nx' := by
  unfold Opts at h ⊢
  rwa [← rowV_congr (fun p hp => show optF cd nx p = optF cd' nx' p by unfold optF; rw [h1 _ (by omega), h2 _ (by omega)])]

end

theorem Try.info60 : (Try.prog.info? 60).map (fun i => (i.zero, i.size, i.bytes)) = some (some (.agg #[.int .u64 0, .int .i64 0, .int .i64 0, .int .i64 0, .int .i64 0, .int .i64 0, .int .i64 0]), 7, 56) := by kernel_rfl

/-- make([]indexedOption, n) -/
theorem wpList_make_opts (w : World) {ops : Array Oper} {rest : List Oper} {o : Oper} {a : Act} {Q : Exit → Act → World → Prop}
    (hg : o.guard = none) (l c : Operand) (hop : o.op = Op.makeSlice 54 l c)
    (kl kc : IntKind) (L C : Int) (n : Nat) (hl : a.eval l = .int kl L) (hc : a.eval c = .int kc C) (hL : L = (n : Int)) (hC : C = (n : Int)) (b2 : n ≤ 65536)
    (hK : ∀ w', Opts w' w.heap.size n (fun _ => 0) (fun _ => 0) → w.grownBy w' none → w'.heap.size = w.heap.size + 1 → wpList Try.prog ops Q rest (a.put o.dst (.slice (some ⟨w.heap.size, 0, none⟩) n n)) w') :
    wpList Try.prog ops Q (o :: rest) a w := by
  obtain ⟨i, h2, h3, h4, h5⟩ := info_parts Try.info60
  refine wpList_plain hg fun K hK' => ?_
  subst hL
  subst hC
  have hrun := run_make (P := Try.prog) w 54 60 i _ Try.underlying54 h2 h3 kl kc n n (by omega) (Int.le_refl _) (by rw [h5]; omega) (by omega)
  simp only [Int.toNat_natCast, h4] at hrun
  unfold Oper.wp
  simp only [execOp, hop, hl, hc, hrun, Result.andThen, Sem.run_bind, Sem.run_pure]
  refine hK' _ _ (hK _ ⟨⟨_, heap_alloc_new w _, by rw [size_madeCells]; omega, fun j hj => ?_⟩, by rw [rowV_length]; exact Nat.le_refl _, by unfold maxLen; omega⟩ (World.grownBy_alloc w _ none) (by simp))
  rw [rowV_length] at hj
  rw [rowV_at _ hj, Nat.zero_add]
  simp only [madeCells, Array.getElem?_map, Array.getElem?_range, hj, if_true, Option.map_some]
  congr 1
  unfold optF
  have h7 : j % 7 < 7 := Nat.mod_lt _ (by omega)
  show (#[Value.int .u64 0, .int .i64 0, .int .i64 0, .int .i64 0, .int .i64 0, .int .i64 0, .int .i64 0] : Array Value)[j % 7]! = _
  rcases (show j % 7 = 0 ∨ j % 7 = 1 ∨ j % 7 = 2 ∨ j % 7 = 3 ∨ j % 7 = 4 ∨ j % 7 = 5 ∨ j % 7 = 6 by omega) with e | e | e | e | e | e | e <;> rw [e] <;> rfl

end Go.Proofs.Qxb6601535a
