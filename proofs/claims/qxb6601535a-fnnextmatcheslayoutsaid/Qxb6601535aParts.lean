/-
  Shared words of this seat's proofs: a row of cells inside a block ('RowAt'), the laws for make, store, append on it; what is told of the two slices that come in.
-/
import Derived.Test.Qxb6601535aRows
import Derived.WalkKit
import Derived.WalkSpells
import Derived.WalkLawsBesides
import Derived.Deep.LoopGhost
namespace Go.Proofs.Qxb6601535a
open Go.RowKit
open Go.WideShapes (add_plain)

theorem hid {p : Prop} (h : p) : Hid p := h

def IsBool (e : Ending) : Prop := ∃ b, e = .returned (.bool b)
theorem IsBool.mk (b : Bool) : IsBool (.returned (.bool b)) := ⟨b, rfl⟩

/-- Block g holds a row of one-cell elements of type e; from 'off' on there is room for 'cap' of them, and the first of them are xs. -/
structure RowAt (w : World) (e : TypeId) (g off cap : Nat) (xs : List Value) : Prop where
  blk : ∃ cur : Array Value, w.heap[g]? = some (.cells cur e (0, 0)) ∧ off + cap ≤ cur.size ∧ ∀ j, j < xs.length → cur[off + j]? = xs[j]?
  le : xs.length ≤ cap
  max : cap ≤ maxLen

section
variable {w : World} {e : TypeId} {g off cap : Nat} {xs : List Value}

theorem RowAt.lt (h : RowAt w e g off cap xs) : g < w.heap.size := by
  obtain ⟨cur, hg, _⟩ := h.blk
  exact (Array.getElem?_eq_some_iff.1 hg).1

theorem RowAt.cell (h : RowAt w e g off cap xs) {j : Nat} (hj : j < xs.length) : w.cell? ⟨g, off + j, none⟩ = xs[j]? := by
  obtain ⟨cur, hg, _, hx⟩ := h.blk
  rw [← hx j hj]
  simp [World.cell?, hg]

theorem RowAt.cell_some (h : RowAt w e g off cap xs) {j : Nat} {u : Value} (hj : xs[j]? = some u) : w.cell? ⟨g, off + j, none⟩ = some u := by
  rw [h.cell (List.getElem?_eq_some_iff.1 hj).1, hj]

theorem RowAt.frozen (h : RowAt w e g off cap xs) (j : Nat) : w.frozen? ⟨g, j, none⟩ = false := by
  obtain ⟨cur, hg, _⟩ := h.blk
  simp [World.frozen?, hg]

theorem RowAt.of_block {w' : World} (h : RowAt w e g off cap xs) (hb : w'.heap[g]? = w.heap[g]?) : RowAt w' e g off cap xs := by
  obtain ⟨cur, hg, r⟩ := h.blk
  exact ⟨⟨cur, by rw [hb]; exact hg, r⟩, h.le, h.max⟩

theorem RowAt.kept {w' : World} {row : Option Nat} (h : RowAt w e g off cap xs) (hg : w.grownBy w' row) (hne : some g ≠ row) : RowAt w' e g off cap xs :=
  h.of_block (hg.block g h.lt hne)

theorem RowAt.below {w' : World} {B : Nat} (h : RowAt w e g off cap xs) (hg : Below B w w') (hne : g < B) : RowAt w' e g off cap xs :=
  h.of_block (hg.block g hne)

theorem RowAt.alloc (h : RowAt w e g off cap xs) (o : Obj) : RowAt (w.alloc o) e g off cap xs := h.of_block (Below.heap_alloc w o g h.lt)
theorem RowAt.drew (h : RowAt w e g off cap xs) : RowAt w.drew e g off cap xs := h.of_block rfl

theorem RowAt.stored (h : RowAt w e g off cap xs) (j : Nat) (u : Value) : RowAt (w.setCell ⟨g, off + j, none⟩ u) e g off cap (xs.set j u) := by
  obtain ⟨cur, hg, hs, hx⟩ := h.blk
  refine ⟨⟨cur.setIfInBounds (off + j) u, heap_setCell_same w g (off + j) cur e u hg, by simpa using hs, fun i hi => ?_⟩, by simpa using h.le, h.max⟩
  have hi' : i < xs.length := by simpa using hi
  have hle := h.le
  by_cases hij : j = i
  · subst hij
    rw [List.getElem?_set_self hi', Array.getElem?_setIfInBounds_self_of_lt (by omega)]
  · rw [List.getElem?_set_ne hij, Array.getElem?_setIfInBounds_ne (by omega), hx i hi']

theorem RowAt.other (h : RowAt w e g off cap xs) {a : Addr} (ha : g ≠ a.block) (u : Value) : RowAt (w.setCell a u) e g off cap xs :=
  h.of_block (Below.heap_setCell w a u g ha)

/-- 'q[1:]' -/
theorem RowAt.tail {x : Value} (h : RowAt w e g off cap (x :: xs)) : RowAt w e g (off + 1) (cap - 1) xs := by
  obtain ⟨cur, hg, hs, hx⟩ := h.blk
  have hle := h.le
  have hm := h.max
  simp only [List.length_cons] at hle
  refine ⟨⟨cur, hg, by omega, fun j hj => ?_⟩, by omega, by omega⟩
  have := hx (j + 1) (by simp; omega)
  rw [show off + 1 + j = off + (j + 1) by omega, this]
  simp

/-- the empty row: nothing is asked of its place but the block -/
theorem RowAt.emptied (h : RowAt w e g off cap xs) {off' : Nat} (ho : off' ≤ off + cap) : RowAt w e g off' 0 [] := by
  obtain ⟨cur, hg, hs, _⟩ := h.blk
  exact ⟨⟨cur, hg, by omega, fun j hj => absurd hj (by simp)⟩, by simp, by simp [maxLen]⟩

theorem RowAt.made (w : World) (e : TypeId) (z : Value) (n : Nat) (hn : n ≤ maxLen) : RowAt (w.alloc (.cells (madeCells #[z] n) e)) e w.heap.size 0 n (List.replicate n z) := by
  refine ⟨⟨_, heap_alloc_new w _, by simp [size_madeCells], fun j hj => ?_⟩, by simp, hn⟩
  rw [Nat.zero_add, ← Array.getElem?_toList, toList_madeCells_one]

theorem RowAt.lit (w : World) (e : TypeId) (cs : List Value) (hn : cs.length ≤ maxLen) : RowAt (w.alloc (.cells cs.toArray e)) e w.heap.size 0 cs.length cs :=
  ⟨⟨_, heap_alloc_new w _, by simp, fun j _ => by simp⟩, Nat.le_refl _, hn⟩

/-- the cells of a row, as the source of an append -/
theorem RowAt.news (h : RowAt w e g off cap xs) : ∀ j u, xs[j]? = some u → w.cell? ((⟨g, off, none⟩ : Addr).add j) = some u := by
  intro j u hu
  rw [add_plain]
  exact h.cell_some hu

end

section
variable {P : Program} {w : World} {e : TypeId} {g off cap : Nat} {xs : List Value}

/-- append onto a row, one-cell elements. -/
theorem run_append_row (t ty : TypeId) (i : TypeInfo) (z : Value) (bytes : Nat) (ht : P.underlying t = some (.slice e)) (hi : P.info? e = some i) (hz : i.zero = some z) (hsize : i.size = 1) (hby : i.bytes = bytes) (hzs : z.cells.size = 1)
    (h : RowAt w e g off cap xs) (n : Nat) (hn : xs.length = n)
    (ad : Addr) (m c : Nat) (news : List Value) (hl : news.length = m) (hnews : ∀ j u, news[j]? = some u → w.cell? (ad.add j) = some u) (h1 : ∀ u ∈ news, u.oneCell' = true)
    (h63 : n + m ≤ maxLen) (hbytes : (n + m) * bytes ≤ 140737488355328) :
    ∃ g' off' cap' w', (Builtin.append_ #[t, t] ty #[.slice (some ⟨g, off, none⟩) n cap, .slice (some ad) m c]).run P w = .ok (.slice (some ⟨g', off', none⟩) (n + m) cap') w' ∧
      RowAt w' e g' off' cap' (xs ++ news) ∧ w.grownBy w' (some g) ∧ (g' = g ∨ w.heap.size ≤ g') := by
  subst hby
  have hsmall : n + m ≤ 9223372036854775807 := by simp only [maxLen] at h63; omega
  by_cases hroom : n + m ≤ cap
  · obtain ⟨cur, hg, hs, hx⟩ := h.blk
    have hfit : off + n + 0 + news.length ≤ cur.size := by omega
    have hst := run_storeCells_at P g (off + n) e news 0 cur w hg hfit h1
    have hf := run_firstCells_some (P := P) w i.size m ad m c news (by rw [hsize, Nat.mul_one]; exact hl) hnews
    rw [hsize] at hf
    simp only [Nat.add_zero] at hst
    refine ⟨g, off, cap, w.setRow g (cur.toList.take (off + n) ++ news ++ cur.toList.drop (off + n + news.length)).toArray, ?_, ⟨⟨_, setRow_heap w g cur _ e _ hg, ?_, ?_⟩, ?_, h.max⟩, ⟨rfl, rfl, rfl, by simp [World.setRow], fun k _ hk => setRow_other w g k _ (fun e => hk (by simp [e]))⟩, .inl rfl⟩
    · simp [Builtin.append_, run_underlying ht, sizeOf, typeInfo, hi, Builtin.lenOf, hroom, hsize, hf, add_plain, hst]
    · simp only [List.size_toArray, List.length_append, List.length_take, List.length_drop, Array.length_toList]; omega
    · intro j hj
      simp only [List.length_append] at hj
      rw [List.getElem?_toArray]
      by_cases hjn : j < xs.length
      · rw [List.append_assoc, List.getElem?_append_left (by simp; omega), List.getElem?_take, if_pos (by omega), List.getElem?_append_left hjn, ← hx j hjn]
        simp
      · rw [List.append_assoc, List.getElem?_append_right (by simp; omega), List.getElem?_append_left (by simp; omega), List.getElem?_append_right (by omega)]
        congr 1
        simp
        omega
    · simp; omega
  · have hr := run_append_grow (P := P) w t ty e i z ht hi hz ⟨g, off, none⟩ n cap xs (by rw [hsize, Nat.mul_one]; exact hn) h.news ad m c news (by rw [hsize, Nat.mul_one]; exact hl) hnews (by omega) (by omega) (growslice_fits (by omega) hbytes)
    have hge := grownCap_ge w (n + m) cap e
    have hcm := grownCap_le_maxLen w (n + m) cap e h63
    refine ⟨w.heap.size, 0, grownCap w (n + m) cap e, _, hr, ⟨⟨_, heap_alloc_new w.drew _, ?_, ?_⟩, ?_, hcm⟩, ⟨rfl, rfl, rfl, by simp, fun k hk _ => Below.heap_alloc w.drew _ k hk⟩, .inr (Nat.le_refl _)⟩
    · simp only [Array.size_append, List.size_toArray, size_zeroCells, hzs]; omega
    · intro j hj
      simp only [List.length_append] at hj
      rw [Nat.zero_add, ← Array.getElem?_toList]
      simp only [Array.toList_append]
      rw [List.getElem?_append_left (by simp; omega)]
    · simp; omega

theorem wpList_append_row {ops : Array Oper} {rest : List Oper} {o : Oper} {a : Act} {Q : Exit → Act → World → Prop} (hgd : o.guard = none) (s x : Operand) (t : TypeId)
    (ho : o.op = .call { callee := .builtin .append, args := #[s, x], argTypes := #[t, t] })
    (i : TypeInfo) (z : Value) (bytes : Nat) (ht : P.underlying t = some (.slice e)) (hi : P.info? e = some i) (hz : i.zero = some z) (hsize : i.size = 1) (hby : i.bytes = bytes) (hzs : z.cells.size = 1)
    (h : RowAt w e g off cap xs) (n : Nat) (hn : xs.length = n) (hs : a.eval s = .slice (some ⟨g, off, none⟩) n cap)
    (ad : Addr) (m c : Nat) (news : List Value) (hx : a.eval x = .slice (some ad) m c) (hl : news.length = m) (hnews : ∀ j u, news[j]? = some u → w.cell? (ad.add j) = some u) (h1 : ∀ u ∈ news, u.oneCell' = true)
    (h63 : n + m ≤ maxLen) (hbytes : (n + m) * bytes ≤ 140737488355328)
    (hK : ∀ g' off' cap' w', RowAt w' e g' off' cap' (xs ++ news) → w.grownBy w' (some g) → (g' = g ∨ w.heap.size ≤ g') → wpList P ops Q rest (a.put o.dst (.slice (some ⟨g', off', none⟩) (n + m) cap')) w') :
    wpList P ops Q (o :: rest) a w := by
  refine wpList_plain hgd fun K hK' => ?_
  obtain ⟨g', off', cap', w', hr, h2, h3, h4⟩ := run_append_row (P := P) t o.type i z bytes ht hi hz hsize hby hzs h n hn ad m c news hl hnews h1 h63 hbytes
  unfold Oper.wp execOp
  simp only [ho, resolve, invoke, builtin, Sem.run_bind, Sem.run_pure, Result.andThen_ok, List.map_toArray, List.map_cons, List.map_nil, hs, hx, hr]
  exact hK' _ _ (hK g' off' cap' w' h2 h3 h4)

/-- make([]T, n) -/
theorem wpList_make_row (w : World) {ops : Array Oper} {rest : List Oper} {o : Oper} {a : Act} {Q : Exit → Act → World → Prop}
    (hg : o.guard = none) (l c : Operand) (t : TypeId) (hop : o.op = Op.makeSlice t l c)
    (i : TypeInfo) (z : Value) (h1 : P.underlying t = some (.slice e)) (h2 : P.info? e = some i) (h3 : i.zero = some z) (h4 : i.size = 1) (h5 : z.cells = #[z])
    (kl kc : IntKind) (L C : Int) (n : Nat) (hl : a.eval l = .int kl L) (hc : a.eval c = .int kc C) (hL : L = (n : Int)) (hC : C = (n : Int)) (b2 : i.bytes * n ≤ 281474976710656) (b3 : n ≤ maxLen)
    (hK : ∀ w', RowAt w' e w.heap.size 0 n (List.replicate n z) → w.grownBy w' none → w'.heap.size = w.heap.size + 1 → wpList P ops Q rest (a.put o.dst (.slice (some ⟨w.heap.size, 0, none⟩) n n)) w') :
    wpList P ops Q (o :: rest) a w := by
  refine wpList_plain hg fun K hK' => ?_
  subst hL
  subst hC
  have h63' : (n : Int) ≤ 9223372036854775807 := by
    have h := b3
    simp [maxLen] at h
    omega
  have hb' : (i.bytes : Int) * (n : Int) ≤ 281474976710656 := by
    have h : ((i.bytes * n : Nat) : Int) ≤ 281474976710656 := by omega
    rwa [Int.natCast_mul] at h
  have hrun := run_make (P := P) w t e i z h1 h2 h3 kl kc n n (by omega) (Int.le_refl _) hb' h63'
  simp only [Int.toNat_natCast, h4, Nat.mul_one, h5] at hrun
  unfold Oper.wp
  simp [execOp, hop, hl, hc, hrun, Result.andThen]
  exact hK' _ _ (hK _ (RowAt.made w e z n b3) (World.grownBy_alloc w _ none) (by simp))

end

/-! ### What came in, to be read -/

/-- n numbers of kind k, at a; read only. -/
structure Rd (w : World) (k : IntKind) (a : Option Addr) (n : Nat) (zs : List Int) : Prop where
  len : zs.length = n
  max : n ≤ maxLen
  cells : ∀ j x, zs[j]? = some x → ∃ b off, a = some ⟨b, off, none⟩ ∧ w.cell? ⟨b, off + j, none⟩ = some (.int k x) ∧ (Lit.int k x).wf = true

theorem Rd.below {w w' : World} {k : IntKind} {a : Option Addr} {n : Nat} {zs : List Int} (h : Rd w k a n zs) (hb : Below w.heap.size w w') : Rd w' k a n zs := by
  refine ⟨h.len, h.max, fun j x hx => ?_⟩
  obtain ⟨b, off, h1, h2, h3⟩ := h.cells j x hx
  exact ⟨b, off, h1, (hb.cell (World.block_lt_of_cell? _ _ h2)).trans h2, h3⟩

theorem Rd.of_row {w : World} {k : IntKind} {e : TypeId} {g off cap : Nat} {zs : List Int} (h : RowAt w e g off cap (zs.map (Value.int k))) (hw : ∀ x ∈ zs, (Lit.int k x).wf = true) : Rd w k (some ⟨g, off, none⟩) zs.length zs := by
  refine ⟨rfl, ?_, fun j x hx => ⟨g, off, rfl, h.cell_some (by rw [List.getElem?_map, hx]; rfl), hw x (List.mem_of_getElem? hx)⟩⟩
  have h1 := h.le
  have h2 := h.max
  simp only [List.length_map] at h1
  omega

theorem Rd.at {w : World} {k : IntKind} {a : Option Addr} {n : Nat} {zs : List Int} (h : Rd w k a n zs) {j : Nat} (hj : j < n) : ∃ b off, a = some ⟨b, off, none⟩ ∧ w.cell? ⟨b, off + j, none⟩ = some (.int k (zs.getD j 0)) ∧ (Lit.int k (zs.getD j 0)).wf = true := by
  have hl : j < zs.length := by rw [h.len]; exact hj
  have := h.cells j zs[j] (List.getElem?_eq_getElem hl)
  rwa [show zs.getD j 0 = zs[j] by simp [List.getD, List.getElem?_eq_getElem hl]]

/-- A row told by its numbers' function. -/
def rowF (k : IntKind) (n : Nat) (f : Nat → Int) : List Value := (List.range n).map fun i => .int k (f i)

theorem rowF_length (k : IntKind) (n : Nat) (f : Nat → Int) : (rowF k n f).length = n := by simp [rowF]
theorem rowF_at (k : IntKind) {n i : Nat} (f : Nat → Int) (hi : i < n) : (rowF k n f)[i]? = some (.int k (f i)) := by simp [rowF, hi]
theorem rowF_congr (k : IntKind) {n : Nat} {f g : Nat → Int} (h : ∀ i, i < n → f i = g i) : rowF k n f = rowF k n g := by
  unfold rowF
  exact List.map_congr_left fun i hi => by rw [h i (by simpa using hi)]
theorem rowF_set (k : IntKind) {n i : Nat} (f g : Nat → Int) (v : Int) (h1 : g i = v) (h2 : ∀ j, j < n → j ≠ i → g j = f j) : (rowF k n f).set i (.int k v) = rowF k n g := by
  apply List.ext_getElem?
  intro j
  by_cases hj : j < n
  · by_cases e : i = j
    · subst e
      rw [List.getElem?_set_self (by rw [rowF_length]; exact hj), rowF_at k g hj, h1]
    · rw [List.getElem?_set_ne e, rowF_at k f hj, rowF_at k g hj, h2 j hj (fun h => e h.symm)]
  · rw [List.getElem?_eq_none (by rw [List.length_set, rowF_length]; omega), List.getElem?_eq_none (by rw [rowF_length]; omega)]
theorem rowF_zero (k : IntKind) (n : Nat) : List.replicate n (Value.int k 0) = rowF k n (fun _ => 0) := by simp [rowF, List.map_const']
theorem rowF_of_list (k : IntKind) (zs : List Int) : zs.map (Value.int k) = rowF k zs.length (fun i => zs.getD i 0) := by
  apply List.ext_getElem?
  intro j
  by_cases hj : j < zs.length
  · rw [rowF_at k _ hj, List.getElem?_map, List.getElem?_eq_getElem hj]
    simp [List.getD, List.getElem?_eq_getElem hj]
  · rw [List.getElem?_eq_none (by simpa using hj), List.getElem?_eq_none (by rw [rowF_length]; omega)]

end Go.Proofs.Qxb6601535a
