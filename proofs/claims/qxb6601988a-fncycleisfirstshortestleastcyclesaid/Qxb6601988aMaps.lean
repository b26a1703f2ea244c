/-
  The two maps of this seat: map[[2]int]string and map[int]int, each told by a plain function.
-/
import Derived.Test.Qxb6601988aParts
import Derived.Maps.OwnSet
import Derived.Maps.StringElems
import Derived.DeepKeys4
namespace Go.Proofs.Qxb6601988a
open Go.RowKit Go.Maps

theorem laid58 : laidOutB Try.prog = true := by kernel_rfl
theorem row58 : (58 : TypeId) < Try.prog.types.size := of_decide_eq_true (by kernel_rfl)
theorem wide58 : (match Try.prog.underlying 58 with | some (.array _ _) | some (.struct _) => true | _ => false) = true := by rw [Try.underlying58]
theorem law58 : Keyed Try.prog 58 := Keyed.of_law (deep_law_laid laid58 (m := 2) (by omega) row58 (by kernel_rfl) wide58)
theorem law3 : Keyed Try.prog 3 := int_keyed Try.underlying3
theorem zero9 (w : World) : (zeroValue 9).run Try.prog w = .ok (.string ByteArray.empty) w := by kernel_rfl
theorem zero3 (w : World) : (zeroValue 3).run Try.prog w = .ok (.int .i64 0) w := by kernel_rfl
theorem ktype58 : Try.prog.keyType 58 = true := by kernel_rfl
theorem csize58 : Try.prog.cellsOf 58 = 2 := by kernel_rfl
theorem csize3 : Try.prog.cellsOf 3 = 1 := by kernel_rfl

def K2 (a b : Int) : Lit := .string (keyBytes [.int .i64 a, .int .i64 b])

theorem keyOf58 {a b : Int} (ha : (Lit.int .i64 a).wf = true) (hb : (Lit.int .i64 b).wf = true) : keyOf Try.prog 58 (.agg #[.int .i64 a, .int .i64 b]) = some (K2 a b) := by
  obtain ⟨m, hm⟩ : ∃ m, Try.prog.types.size + 1 = m + 2 := ⟨Try.prog.types.size - 1, by have h : (58 : Nat) < Try.prog.types.size := row58; omega⟩
  have hf : (Value.agg #[.int .i64 a, .int .i64 b]).formed Try.prog 58 = true := by simp [Value.formed, Try.underlying58, csize58]
  have h2 : Program.keyLits Try.prog (m + 2) 58 [.int .i64 a, .int .i64 b] = some [.int .i64 a, .int .i64 b] := by
    simp [Program.keyLits, Try.underlying58, Try.underlying3, csize58, csize3, List.range_succ, ha, hb]
  simp only [keyOf, Try.underlying58, ktype58, hf, Bool.and_self, if_true, hm]
  show Option.map _ (Program.keyLits Try.prog (m + 2) 58 [.int .i64 a, .int .i64 b]) = _
  rw [h2]
  rfl

theorem K2_key (a b : Int) : WideAt.IsKeyLit (K2 a b) := trivial

theorem Int_key (a : Int) : WideAt.IsKeyLit (.int .i64 a) := trivial

theorem K2_inj {a b c d : Int} (ha : (Lit.int .i64 a).wf = true) (hb : (Lit.int .i64 b).wf = true) (hc : (Lit.int .i64 c).wf = true) (hd : (Lit.int .i64 d).wf = true) (h : K2 a b = K2 c d) : a = c ∧ b = d := by
  have := law58.inj (keyOf58 ha hb) (h ▸ keyOf58 hc hd)
  simpa using this

theorem bytes_of_list {s t : ByteArray} (h : s.data.toList = t.data.toList) : s = t := by
  cases s; cases t
  simp only [ByteArray.mk.injEq]
  exact Array.ext' h

/-- Block b is the edges' map: it says of two numbers what f says. -/
def EMap (w : World) (b n : Nat) (f : Int → Int → Option ByteArray) : Prop :=
  ∃ D : DataW Unit, w.ownsMap Try.prog 58 (plainElem Try.prog 9) b n D ∧ ∀ x y, (Lit.int .i64 x).wf = true → (Lit.int .i64 y).wf = true →
    Maps.has D (K2 x y) = (f x y).isSome ∧ D.atKey (K2 x y) (.lit (.string [])) = .lit (.string ((f x y).getD ByteArray.empty).data.toList)

/-- Block b is a map from numbers to numbers: it says of a number what f says. -/
def IMap (w : World) (b n : Nat) (f : Int → Option Int) : Prop :=
  ∃ D : DataW Unit, w.ownsMap Try.prog 3 (plainElem Try.prog 3) b n D ∧ ∀ x, (Lit.int .i64 x).wf = true →
    Maps.has D (.int .i64 x) = (f x).isSome ∧ D.atKey (.int .i64 x) (.lit (.int .i64 0)) = .lit (.int .i64 ((f x).getD 0))

section
variable {w w' : World} {b n : Nat}

theorem EMap.lt {f : Int → Int → Option ByteArray} (h : EMap w b n f) : b < w.heap.size := let ⟨_, h1, _⟩ := h; h1.lt
theorem IMap.lt {f : Int → Option Int} (h : IMap w b n f) : b < w.heap.size := let ⟨_, h1, _⟩ := h; h1.lt

theorem ownsMap_of_block {H : Type} {P : Program} {k : TypeId} {R : Value → Option (DataW H × List MemPlace)} {D : DataW H} (h : w.ownsMap P k R b n D) (hb : w'.heap[b]? = w.heap[b]?) : w'.ownsMap P k R b n D := by
  obtain ⟨es, clock, h1, r⟩ := h
  exact ⟨es, clock, hb.trans h1, r⟩

theorem EMap.of_block {f : Int → Int → Option ByteArray} (h : EMap w b n f) (hb : w'.heap[b]? = w.heap[b]?) : EMap w' b n f := let ⟨D, h1, h2⟩ := h; ⟨D, ownsMap_of_block h1 hb, h2⟩
theorem IMap.of_block {f : Int → Option Int} (h : IMap w b n f) (hb : w'.heap[b]? = w.heap[b]?) : IMap w' b n f := let ⟨D, h1, h2⟩ := h; ⟨D, ownsMap_of_block h1 hb, h2⟩

theorem EMap.alloc {f : Int → Int → Option ByteArray} (h : EMap w b n f) (o : Obj) : EMap (w.alloc o) b n f := h.of_block (Below.heap_alloc w o b h.lt)
theorem IMap.alloc {f : Int → Option Int} (h : IMap w b n f) (o : Obj) : IMap (w.alloc o) b n f := h.of_block (Below.heap_alloc w o b h.lt)
theorem EMap.drew {f : Int → Int → Option ByteArray} (h : EMap w b n f) : EMap w.drew b n f := h.of_block rfl
theorem IMap.drew {f : Int → Option Int} (h : IMap w b n f) : IMap w.drew b n f := h.of_block rfl
theorem EMap.setCell {f : Int → Int → Option ByteArray} (h : EMap w b n f) {a : Addr} (ha : b ≠ a.block) (u : Value) : EMap (w.setCell a u) b n f := h.of_block (Below.heap_setCell w a u b ha)
theorem EMap.kept {f : Int → Int → Option ByteArray} {row : Option Nat} (h : EMap w b n f) (hg : w.grownBy w' row) (hne : some b ≠ row) : EMap w' b n f := h.of_block (hg.block b h.lt hne)
theorem IMap.kept {f : Int → Option Int} {row : Option Nat} (h : IMap w b n f) (hg : w.grownBy w' row) (hne : some b ≠ row) : IMap w' b n f := h.of_block (hg.block b h.lt hne)
theorem EMap.below {f : Int → Int → Option ByteArray} {B : Nat} (h : EMap w b n f) (hg : Below B w w') (hne : b < B) : EMap w' b n f := h.of_block (hg.block b hne)
theorem EMap.mono {f : Int → Int → Option ByteArray} (h : EMap w b n f) {n' : Nat} (hn : n ≤ n') : EMap w b n' f := let ⟨D, h1, h2⟩ := h; ⟨D, h1.mono hn, h2⟩
theorem IMap.mono {f : Int → Option Int} (h : IMap w b n f) {n' : Nat} (hn : n ≤ n') : IMap w b n' f := let ⟨D, h1, h2⟩ := h; ⟨D, h1.mono hn, h2⟩

theorem EMap.made (w : World) : EMap (w.alloc (.map #[] 0)) w.heap.size 0 (fun _ _ => none) := ⟨_, World.ownsMap_made w _ _ _, fun _ _ _ _ => ⟨rfl, rfl⟩⟩
theorem IMap.made (w : World) : IMap (w.alloc (.map #[] 0)) w.heap.size 0 (fun _ => none) := ⟨_, World.ownsMap_made w _ _ _, fun _ _ => ⟨rfl, rfl⟩⟩

end

section
variable (w : World) {ops : Array Oper} {rest : List Oper} {o : Oper} {a : Act} {Q : Exit → Act → World → Prop}

/-- 'v, ok := edges[{i, j}]' -/
theorem wpList_look_e (hg : o.guard = none) (m x : Operand) (hop : o.op = Op.lookup 30 m x true) {b n : Nat} {f : Int → Int → Option ByteArray} (h : EMap w b n f) (hm : a.eval m = .map (some b))
    (i j : Int) (hi : (Lit.int .i64 i).wf = true) (hj : (Lit.int .i64 j).wf = true) (hx : a.eval x = .agg #[.int .i64 i, .int .i64 j])
    (hK : wpList Try.prog ops Q rest (a.put o.dst (.tuple #[.string ((f i j).getD ByteArray.empty), .bool (f i j).isSome])) w) : wpList Try.prog ops Q (o :: rest) a w := by
  obtain ⟨D, h1, h2⟩ := h
  obtain ⟨e1, e2⟩ := h2 i j hi hj
  refine wpList_plain hg fun K' hK' => ?_
  obtain ⟨v, ps, hrun, hv⟩ := h1.look_ok law58 Try.underlying30 (zero9 w) (plainElem_string Try.underlying9 (s := ByteArray.empty) (by simp [maxLen])) (keyOf58 hi hj)
  obtain ⟨s, rfl, hs, _⟩ := plainElem_string_inv Try.underlying9 hv
  simp only [Prod.mk.injEq] at hs
  have hss : s = (f i j).getD ByteArray.empty := by
    have h3 := hs.1
    have h4 : D.atKey (K2 i j) (.lit (.string (ByteArray.empty).data.toList)) = _ := e2
    rw [h4] at h3
    simp at h3
    exact (bytes_of_list (by rw [h3])).symm
  rw [hss, e1] at hrun
  unfold Oper.wp
  simp [execOp, hop, hm, hx, hrun, Result.andThen]
  exact hK' _ _ hK

/-- 'edges[{i, j}]' -/
theorem wpList_look_e1 (hg : o.guard = none) (m x : Operand) (hop : o.op = Op.lookup 30 m x false) {b n : Nat} {f : Int → Int → Option ByteArray} (h : EMap w b n f) (hm : a.eval m = .map (some b))
    (i j : Int) (hi : (Lit.int .i64 i).wf = true) (hj : (Lit.int .i64 j).wf = true) (hx : a.eval x = .agg #[.int .i64 i, .int .i64 j])
    (hK : wpList Try.prog ops Q rest (a.put o.dst (.string ((f i j).getD ByteArray.empty))) w) : wpList Try.prog ops Q (o :: rest) a w := by
  obtain ⟨D, h1, h2⟩ := h
  obtain ⟨e1, e2⟩ := h2 i j hi hj
  refine wpList_plain hg fun K' hK' => ?_
  obtain ⟨v, ps, hrun, hv⟩ := h1.lookup law58 Try.underlying30 (zero9 w) (plainElem_string Try.underlying9 (s := ByteArray.empty) (by simp [maxLen])) (keyOf58 hi hj)
  obtain ⟨s, rfl, hs, _⟩ := plainElem_string_inv Try.underlying9 hv
  simp only [Prod.mk.injEq] at hs
  have hss : s = (f i j).getD ByteArray.empty := by
    have h3 := hs.1
    have h4 : D.atKey (K2 i j) (.lit (.string (ByteArray.empty).data.toList)) = _ := e2
    rw [h4] at h3
    simp at h3
    exact (bytes_of_list (by rw [h3])).symm
  rw [hss] at hrun
  unfold Oper.wp
  simp [execOp, hop, hm, hx, hrun, Result.andThen]
  exact hK' _ _ hK

/-- 'edges[{i, j}] = s': at an operation, whatever stands behind it. -/
theorem run_store_e {b n : Nat} {f f' : Int → Int → Option ByteArray} (h : EMap w b n f) (hn : n < maxLen) (i j : Int) (hi : (Lit.int .i64 i).wf = true) (hj : (Lit.int .i64 j).wf = true) (s : ByteArray) (hs : s.size ≤ maxLen)
    (hf : ∀ x y, f' x y = if x = i ∧ y = j then some s else f x y) :
    ∃ w', (Instr.mapUpdate 30 (.map (some b)) (.agg #[.int .i64 i, .int .i64 j]) (.string s)).run Try.prog w = .ok () w' ∧ EMap w' b (n + 1) f' ∧ w.grownBy w' (some b) := by
  obtain ⟨D, h1, h2⟩ := h
  obtain ⟨w', hrun, r1, r2⟩ := h1.update law58 Try.underlying30 hn (keyOf58 hi hj) (plainElem_string Try.underlying9 hs)
  refine ⟨w', hrun, ⟨_, r1, fun x y hx hy => ?_⟩, r2⟩
  rw [hf]
  by_cases e : x = i ∧ y = j
  · obtain ⟨rfl, rfl⟩ := e
    rw [if_pos ⟨rfl, rfl⟩, Maps.has_put_same h1.isMap (K2_key x y), Maps.atKey_put_same h1.isMap (K2_key x y)]
    exact ⟨rfl, rfl⟩
  · have hne : K2 x y ≠ K2 i j := fun h => e (K2_inj hx hy hi hj h)
    rw [if_neg e, Maps.has_put_other hne, Maps.atKey_put_other hne]
    exact h2 x y hx hy

theorem wpList_store_e (hg : o.guard = none) (m x v : Operand) (hop : o.op = Op.mapUpdate 30 m x v) {b n : Nat} {f : Int → Int → Option ByteArray} (f' : Int → Int → Option ByteArray) (h : EMap w b n f) (hn : n < maxLen) (hm : a.eval m = .map (some b))
    (i j : Int) (hi : (Lit.int .i64 i).wf = true) (hj : (Lit.int .i64 j).wf = true) (hx : a.eval x = .agg #[.int .i64 i, .int .i64 j]) (s : ByteArray) (hs : s.size ≤ maxLen) (hv : a.eval v = .string s)
    (hf : ∀ x y, f' x y = if x = i ∧ y = j then some s else f x y)
    (hK : ∀ w', EMap w' b (n + 1) f' → w.grownBy w' (some b) → wpList Try.prog ops Q rest (a.put o.dst undef) w') : wpList Try.prog ops Q (o :: rest) a w := by
  refine wpList_plain hg fun K' hK' => ?_
  obtain ⟨w', hrun, r1, r2⟩ := run_store_e w h hn i j hi hj s hs hf
  unfold Oper.wp
  simp [execOp, hop, hm, hx, hv, hrun, Result.andThen]
  exact hK' _ _ (hK w' r1 r2)

/-- 'v, ok := came[i]' -/
theorem wpList_look_i (hg : o.guard = none) (m x : Operand) (hop : o.op = Op.lookup 61 m x true) {b n : Nat} {f : Int → Option Int} (h : IMap w b n f) (hm : a.eval m = .map (some b))
    (i : Int) (hi : (Lit.int .i64 i).wf = true) (hx : a.eval x = .int .i64 i)
    (hK : wpList Try.prog ops Q rest (a.put o.dst (.tuple #[.int .i64 ((f i).getD 0), .bool (f i).isSome])) w) : wpList Try.prog ops Q (o :: rest) a w := by
  obtain ⟨D, h1, h2⟩ := h
  obtain ⟨e1, e2⟩ := h2 i hi
  refine wpList_plain hg fun K' hK' => ?_
  obtain ⟨v, ps, hrun, hv⟩ := h1.look_ok law3 Try.underlying61 (zero3 w) (plainElem_int Try.underlying3 (a := 0) (by decide)) (keyOf_int_mk Try.underlying3 hi)
  obtain ⟨c, rfl, hc, _⟩ := plainElem_int_inv Try.underlying3 hv
  simp only [Prod.mk.injEq] at hc
  have hss : c = (f i).getD 0 := by
    have h3 := hc.1
    rw [e2] at h3
    simpa using h3.symm
  rw [hss, e1] at hrun
  unfold Oper.wp
  simp [execOp, hop, hm, hx, hrun, Result.andThen]
  exact hK' _ _ hK

/-- 'came[i]' -/
theorem wpList_look_i1 (hg : o.guard = none) (m x : Operand) (hop : o.op = Op.lookup 61 m x false) {b n : Nat} {f : Int → Option Int} (h : IMap w b n f) (hm : a.eval m = .map (some b))
    (i : Int) (hi : (Lit.int .i64 i).wf = true) (hx : a.eval x = .int .i64 i)
    (hK : wpList Try.prog ops Q rest (a.put o.dst (.int .i64 ((f i).getD 0))) w) : wpList Try.prog ops Q (o :: rest) a w := by
  obtain ⟨D, h1, h2⟩ := h
  obtain ⟨e1, e2⟩ := h2 i hi
  refine wpList_plain hg fun K' hK' => ?_
  obtain ⟨v, ps, hrun, hv⟩ := h1.lookup law3 Try.underlying61 (zero3 w) (plainElem_int Try.underlying3 (a := 0) (by decide)) (keyOf_int_mk Try.underlying3 hi)
  obtain ⟨c, rfl, hc, _⟩ := plainElem_int_inv Try.underlying3 hv
  simp only [Prod.mk.injEq] at hc
  have hss : c = (f i).getD 0 := by
    have h3 := hc.1
    rw [e2] at h3
    simpa using h3.symm
  rw [hss] at hrun
  unfold Oper.wp
  simp [execOp, hop, hm, hx, hrun, Result.andThen]
  exact hK' _ _ hK

/-- 'came[i] = c' -/
theorem wpList_store_i (hg : o.guard = none) (m x v : Operand) (hop : o.op = Op.mapUpdate 61 m x v) {b n : Nat} {f : Int → Option Int} (f' : Int → Option Int) (h : IMap w b n f) (hn : n < maxLen) (hm : a.eval m = .map (some b))
    (i : Int) (hi : (Lit.int .i64 i).wf = true) (hx : a.eval x = .int .i64 i) (c : Int) (hc : (Lit.int .i64 c).wf = true) (hv : a.eval v = .int .i64 c)
    (hf : ∀ x, f' x = if x = i then some c else f x)
    (hK : ∀ w', IMap w' b (n + 1) f' → w.grownBy w' (some b) → wpList Try.prog ops Q rest (a.put o.dst undef) w') : wpList Try.prog ops Q (o :: rest) a w := by
  obtain ⟨D, h1, h2⟩ := h
  refine wpList_plain hg fun K' hK' => ?_
  obtain ⟨w', hrun, r1, r2⟩ := h1.update law3 Try.underlying61 hn (keyOf_int_mk Try.underlying3 hi) (plainElem_int Try.underlying3 hc)
  have r3 : IMap w' b (n + 1) f' := by
    refine ⟨_, r1, fun x hx => ?_⟩
    rw [hf]
    by_cases e : x = i
    · subst e
      rw [if_pos rfl, Maps.has_put_same h1.isMap (Int_key x), Maps.atKey_put_same h1.isMap (Int_key x)]
      exact ⟨rfl, rfl⟩
    · have hne : Lit.int .i64 x ≠ .int .i64 i := fun h => e (by simpa using h)
      rw [if_neg e, Maps.has_put_other hne, Maps.atKey_put_other hne]
      exact h2 x hx
  unfold Oper.wp
  simp [execOp, hop, hm, hx, hv, hrun, Result.andThen]
  exact hK' _ _ (hK w' r3 r2)

end

end Go.Proofs.Qxb6601988a
