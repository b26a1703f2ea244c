/-
  What the law builds: terms and formulas made of new blocks, all from a place L on; what keeps them.
-/
import Derived.Test.Qxb6601988aDoorBudget
import Derived.Test.Qxb6601988aDoorBuilder
namespace Go.Proofs.Qxb6601988aDoor
open Go.RowKit
open Go.Deep (BT)

def isB (t : TypeId) : Prop := t = 83 ∨ t = 88 ∨ t = 58 ∨ t = 79 ∨ t = 37

/-- From L on, the blocks of built things stand as they stood. -/
def Kept (L : Nat) (w w' : World) : Prop := ∀ (k : Nat) cs t, L ≤ k → w.heap[k]? = some (.cells cs t (0, 0)) → isB t → w'.heap[k]? = some (.cells cs t (0, 0))

theorem Kept.refl (L : Nat) (w : World) : Kept L w w := fun _ _ _ _ h _ => h
theorem Kept.trans {L : Nat} {a b c : World} (h : Kept L a b) (h' : Kept L b c) : Kept L a c := fun k cs t hk hh ht => h' k cs t hk (h k cs t hk hh ht) ht
theorem Kept.mono {L L' : Nat} {a b : World} (h : Kept L a b) (hl : L ≤ L') : Kept L' a b := fun k cs t hk hh ht => h k cs t (by omega) hh ht

theorem Kept.of_below {w w' : World} (hb : Below w.heap.size w w') (L : Nat) : Kept L w w' := fun k cs t _ hh _ => by
  rw [hb.block k (Array.getElem?_eq_some_iff.1 hh).1]
  exact hh

theorem Kept.store {w : World} {L : Nat} (a : Addr) (u : Value) (ha : a.block < L) : Kept L w (w.setCell a u) := fun k cs t hk hh _ => by
  rw [Below.heap_setCell w a u k (by omega)]
  exact hh

theorem Kept.of_others {w w' : World} {b : Nat} {cs : Array Value} {fz : Nat × Nat} (h : Lib.OthersKept 5 (some b) w w') (hb : w.heap[b]? = some (.cells cs 31 fz)) : Kept 0 w w' := fun k cs' t _ hh ht => by
  refine h k _ hh ?_ ?_
  · intro e
    obtain rfl := Option.some.inj e
    rw [hb] at hh
    simp only [Option.some.injEq, Obj.cells.injEq] at hh
    obtain ⟨_, rfl, _⟩ := hh
    rcases ht with ht | ht | ht | ht | ht <;> cases ht
  · intro c fz' e
    simp only [Obj.cells.injEq] at e
    obtain ⟨_, rfl, _⟩ := e
    rcases ht with ht | ht | ht | ht | ht <;> cases ht

def SymB (w : World) (L : Nat) (p : Option Addr) (s : Option ByteArray) : Prop :=
  (p = none ∧ s = none) ∨ ∃ nm k, s = some nm ∧ p = some ⟨k, 0, none⟩ ∧ L ≤ k ∧ w.heap[k]? = some (.cells #[.string nm, .slice none 0 0, .pointer none] 83 (0, 0)) ∧ nm.size ≤ maxLen

theorem SymB.kept {w w' : World} {L : Nat} {p : Option Addr} {s : Option ByteArray} (h : SymB w L p s) (hk : Kept L w w') : SymB w' L p s := by
  rcases h with h | ⟨nm, k, h1, h2, h3, h4, h5⟩
  · exact .inl h
  · exact .inr ⟨nm, k, h1, h2, h3, hk _ _ _ h3 h4 (.inl rfl), h5⟩

theorem SymB.mono {w : World} {L L' : Nat} {p : Option Addr} {s : Option ByteArray} (h : SymB w L p s) (hl : L' ≤ L) : SymB w L' p s := by
  rcases h with h | ⟨nm, k, h1, h2, h3, h4⟩
  · exact .inl h
  · exact .inr ⟨nm, k, h1, h2, by omega, h4⟩

/-- A built term: the pointer, its block, what it leads to. -/
def HdTB (w : World) (L : Nat) (a : Option ByteArray × Int) (n : Nat) (P : (Nat → Option Value) → Prop) (g : Option Value) : Prop :=
  ∃ q p sl cap, g = some (.pointer (some ⟨q, 0, none⟩)) ∧ L ≤ q ∧ w.heap[q]? = some (.cells #[.pointer p, .int .i64 a.2, .slice sl n cap] 88 (0, 0)) ∧ SymB w L p a.1 ∧ wfI a.2 ∧ n ≤ maxLen ∧
    ∃ b cur, (n = 0 ∨ (sl = some ⟨b, 0, none⟩ ∧ L ≤ b ∧ w.heap[b]? = some (.cells cur 58 (0, 0)))) ∧ P (fun k => cur[k]?)

theorem HdTB.kept {w w' : World} {L L' : Nat} (hk : Kept L w w') (hl : L' ≤ L) (a : Option ByteArray × Int) (n : Nat) (P P' : (Nat → Option Value) → Prop) (g g' : Option Value) (hg : g = g')
    (hP : ∀ c c', (∀ k : Nat, c k = c' k) → P c → P' c') (h : HdTB w L a n P g) : HdTB w' L' a n P' g' := by
  obtain ⟨q, p, sl, cap, h0, h1, h2, h3, h4, h5, b, cur, h6, h7⟩ := h
  refine ⟨q, p, sl, cap, hg ▸ h0, by omega, hk _ _ _ h1 h2 (.inr (.inl rfl)), (h3.kept hk).mono hl, h4, h5, b, cur, ?_, hP _ _ (fun _ => rfl) h7⟩
  rcases h6 with h6 | ⟨h6, h8, h9⟩
  · exact .inl h6
  · exact .inr ⟨h6, by omega, hk _ _ _ h8 h9 (.inr (.inr (.inl rfl)))⟩

theorem oneTB_kept {w w' : World} {L L' : Nat} (hk : Kept L w w') (hl : L' ≤ L) {x : T1} {g : Option Value} (h : One (HdTB w L) x g) : One (HdTB w' L') x g :=
  HdTB.kept hk hl _ _ _ _ _ _ rfl (fun _ _ hc hA => hA.map (· = ·) (HdTB.kept hk hl) hc) h

theorem allTB_kept {w w' : World} {L L' : Nat} (hk : Kept L w w') (hl : L' ≤ L) {t : TL} {c : Nat → Option Value} (h : All (HdTB w L) t c) : All (HdTB w' L') t c :=
  h.map (· = ·) (HdTB.kept hk hl) (fun _ => rfl)

/-- A built formula. -/
def HdFB (w : World) (L : Nat) (a : Int × Option ByteArray × Bool × TL) (n : Nat) (P : (Nat → Option Value) → Prop) (g : Option Value) : Prop :=
  ∃ q p sl m cap xl xcap sh, g = some (.pointer (some ⟨q, 0, none⟩)) ∧ L ≤ q ∧ w.heap[q]? = some (.cells #[.int .i64 a.1, .pointer p, .slice sl m cap, .slice xl n xcap, .bool sh] 79 (0, 0)) ∧ SymB w L p a.2.1 ∧ wfI a.1 ∧ m = len a.2.2.2 ∧ m ≤ maxLen ∧ n ≤ maxLen ∧
    (∃ b cur, (m = 0 ∨ (sl = some ⟨b, 0, none⟩ ∧ L ≤ b ∧ w.heap[b]? = some (.cells cur 58 (0, 0)))) ∧ All (HdTB w L) a.2.2.2 (fun k => cur[k]?)) ∧
    ∃ b cur, (n = 0 ∨ (xl = some ⟨b, 0, none⟩ ∧ L ≤ b ∧ w.heap[b]? = some (.cells cur 37 (0, 0)))) ∧ P (fun k => cur[k]?)

theorem HdFB.kept {w w' : World} {L L' : Nat} (hk : Kept L w w') (hl : L' ≤ L) (a : Int × Option ByteArray × Bool × TL) (n : Nat) (P P' : (Nat → Option Value) → Prop) (g g' : Option Value) (hg : g = g')
    (hP : ∀ c c', (∀ k : Nat, c k = c' k) → P c → P' c') (h : HdFB w L a n P g) : HdFB w' L' a n P' g' := by
  obtain ⟨q, p, sl, m, cap, xl, xcap, sh, h0, h1, h2, h3, h4, h5, h6, h7, ⟨b, cur, h8, h9⟩, b', cur', h10, h11⟩ := h
  refine ⟨q, p, sl, m, cap, xl, xcap, sh, hg ▸ h0, by omega, hk _ _ _ h1 h2 (.inr (.inr (.inr (.inl rfl)))), (h3.kept hk).mono hl, h4, h5, h6, h7, ⟨b, cur, ?_, allTB_kept hk hl h9⟩, b', cur', ?_, hP _ _ (fun _ => rfl) h11⟩
  · rcases h8 with h8 | ⟨h8, h12, h13⟩
    · exact .inl h8
    · exact .inr ⟨h8, by omega, hk _ _ _ h12 h13 (.inr (.inr (.inl rfl)))⟩
  · rcases h10 with h10 | ⟨h10, h12, h13⟩
    · exact .inl h10
    · exact .inr ⟨h10, by omega, hk _ _ _ h12 h13 (.inr (.inr (.inr (.inr rfl))))⟩

theorem oneFB_kept {w w' : World} {L L' : Nat} (hk : Kept L w w') (hl : L' ≤ L) {x : F1} {g : Option Value} (h : One (HdFB w L) x g) : One (HdFB w' L') x g :=
  HdFB.kept hk hl _ _ _ _ _ _ rfl (fun _ _ hc hA => hA.map (· = ·) (HdFB.kept hk hl) hc) h

/-! ### a row of pointers that is being filled -/

def upB {α : Type} (Hd : α → Nat → ((Nat → Option Value) → Prop) → Option Value → Prop) (t : BT α) (k : Nat) (cur : Array Value) : Prop := ∀ (i : Nat) x, i < k → (toL t)[i]? = some x → One Hd x cur[i]?

theorem upB_all {α : Type} {Hd : α → Nat → ((Nat → Option Value) → Prop) → Option Value → Prop} {t : BT α} {k : Nat} {cur : Array Value} (h : upB Hd t k cur) (hk : len t ≤ k) : All Hd t (fun k => cur[k]?) :=
  All.mk fun i x hx => h i x (by have := toL_lt hx; omega) hx

theorem upB_zero {α : Type} (Hd : α → Nat → ((Nat → Option Value) → Prop) → Option Value → Prop) (t : BT α) (cur : Array Value) : upB Hd t 0 cur := fun i x h => by omega

theorem upB_succ {α : Type} {Hd Hd' : α → Nat → ((Nat → Option Value) → Prop) → Option Value → Prop} {t : BT α} {k : Nat} {cur : Array Value} {y : α × BT α} {u : Value} (h : upB Hd t k cur) (hs : ∀ x g, One Hd x g → One Hd' x g) (hy : (toL t)[k]? = some y) (hk : k < cur.size) (hu : One Hd' y (some u)) :
    upB Hd' t (k + 1) (cur.setIfInBounds k u) := fun i x hi hx => by
  rcases Nat.lt_or_ge i k with h' | h'
  · rw [Array.getElem?_setIfInBounds_ne (by omega)]
    exact hs _ _ (h i x h' hx)
  · obtain rfl : i = k := by omega
    rw [hy] at hx
    obtain rfl := Option.some.inj hx
    rw [Array.getElem?_setIfInBounds_self_of_lt hk]
    exact hu

theorem le_sum : ∀ {l : List Nat} {x : Nat}, x ∈ l → x ≤ l.sum
  | a :: l, x, h => by
    rcases List.mem_cons.1 h with rfl | h
    · simp
    · have := le_sum h
      simp
      omega

theorem cost_mem {t : TL} {k : Nat} {y : T1} (h : (toL t)[k]? = some y) : cost1 y ≤ costT t := by
  rw [costT_sum]
  have : cost1 y ∈ (toL t).map cost1 := List.mem_map.2 ⟨y, List.mem_of_getElem? h, rfl⟩
  exact le_sum this

theorem costF_mem {t : FL} {k : Nat} {y : F1} (h : (toL t)[k]? = some y) : costF1 y ≤ costF t := by
  rw [costF_sum]
  have : costF1 y ∈ (toL t).map costF1 := List.mem_map.2 ⟨y, List.mem_of_getElem? h, rfl⟩
  exact le_sum this

/-- make([]T, n) of pointers. -/
theorem wpList_make_ptrs {P : Program} {e : TypeId} (w : World) {ops : Array Oper} {rest : List Oper} {o : Oper} {a : Act} {Q : Exit → Act → World → Prop}
    (hg : o.guard = none) (l c : Operand) (t : TypeId) (hop : o.op = Op.makeSlice t l c)
    (i : TypeInfo) (z : Value) (h1 : P.underlying t = some (.slice e)) (h2 : P.info? e = some i) (h3 : i.zero = some z) (h4 : i.size = 1) (h5 : z.cells = #[z])
    (kl kc : IntKind) (L C : Int) (n : Nat) (hl : a.eval l = .int kl L) (hc : a.eval c = .int kc C) (hL : L = (n : Int)) (hC : C = (n : Int)) (b2 : i.bytes * n ≤ 281474976710656) (b3 : n ≤ maxLen)
    (hK : ∀ cur : Array Value, cur.size = n → wpList P ops Q rest (a.put o.dst (.slice (some ⟨w.heap.size, 0, none⟩) n n)) (w.alloc (.cells cur e))) :
    wpList P ops Q (o :: rest) a w := by
  refine wpList_plain hg fun K hK' => ?_
  subst hL
  subst hC
  have h63' : (n : Int) ≤ 9223372036854775807 := by
    have h := b3
    simp [maxLen] at h
    omega
  have hb' : (i.bytes : Int) * (n : Int) ≤ 281474976710656 := by
    have h : ((i.bytes * n : Nat) : Int) ≤ 281474976710656 := by omega
    rwa [Int.natCast_mul] at h
  have hrun := run_make (P := P) w t e i z h1 h2 h3 kl kc n n (by omega) (Int.le_refl _) hb' h63'
  simp only [Int.toNat_natCast, h4, Nat.mul_one, h5] at hrun
  unfold Oper.wp
  simp [execOp, hop, hl, hc, hrun, Result.andThen]
  exact hK' _ _ (hK _ (by simp [size_madeCells]))

/-! ### the makers -/

theorem sym16 (s : ByteArray) (w : World) : Calls Tryd.prog 16 #[.string s] w fun e w' => e = .returned (.pointer (some ⟨w.heap.size, 0, none⟩)) ∧ w' = w.alloc (.cells #[.string s, .slice none 0 0, .pointer none] 83) := by
  go_enter Tryd.func16, Tryd.ntmps16
  go_wp2
  go_ret
  exact ⟨rfl, rfl⟩

theorem term29 (p sl : Option Addr) (v : Int) (n cap : Nat) (w : World) : Calls Tryd.prog 29 #[.pointer p, .int .i64 v, .slice sl n cap] w fun e w' => e = .returned (.pointer (some ⟨w.heap.size, 0, none⟩)) ∧ w' = w.alloc (.cells #[.pointer p, .int .i64 v, .slice sl n cap] 88) := by
  go_enter Tryd.func29, Tryd.ntmps29
  go_wp2
  go_ret
  exact ⟨rfl, rfl⟩

theorem form18 (op : Int) (p sl : Option Addr) (m cap : Nat) (xl : Option Addr) (n xcap : Nat) (sh : Bool) (w : World) : Calls Tryd.prog 18 #[.int .i64 op, .pointer p, .slice sl m cap, .slice xl n xcap, .bool sh] w fun e w' =>
    e = .returned (.pointer (some ⟨w.heap.size, 0, none⟩)) ∧ w' = w.alloc (.cells #[.int .i64 op, .pointer p, .slice sl m cap, .slice xl n xcap, .bool sh] 79) := by
  go_enter Tryd.func18, Tryd.ntmps18
  go_wp2
  go_ret
  exact ⟨rfl, rfl⟩

end Go.Proofs.Qxb6601988aDoor
