/-
  What stands once the graph is laid, as one bundle; the callees' contracts over it.
-/
import Derived.Test.Qxb6601988aCalls
import Derived.Test.Qxb6601988aCycle
import Derived.Test.Qxb6601988aSmall
namespace Go.Proofs.Qxb6601988a
open Go.RowKit Go.Proofs.Qxb6601988a.Bfs

theorem SortBlk.later {w w' : World} {q : Nat} {ss : List (ByteArray × Int)} (h : SortBlk w q ss) (hb : Below w.heap.size w w') : SortBlk w' q ss := fun i x hx => by
  have h1 := h i x hx
  rw [hb.block (q + i) (Array.getElem?_eq_some_iff.1 h1).1]
  exact h1

structure G (w : World) (a0 : Option Addr) (n : Nat) (ss : List (ByteArray × Int)) (a1 : Option Addr) (len1 : Nat) (es : List (Int × Int × ByteArray)) (gb : Nat) (ga : Option Addr) (sg mb q : Nat) : Prop where
  srt : Srt w a0 n ss
  edg : Edg w a1 len1 es
  c0 : w.cell? ⟨gb, 0, none⟩ = some (.slice ga n n)
  c1 : w.cell? ⟨gb, 1, none⟩ = some (.map (some mb))
  sa : 0 < n → ga = some ⟨sg, 0, none⟩
  row : 0 < n → RowAt w 47 sg 0 n (ptrs q n)
  blk : SortBlk w q ss
  emap : EMap w mb len1 (firstWhy es)
  small : n ≤ 256

section
variable {w w' : World} {a0 : Option Addr} {n : Nat} {ss : List (ByteArray × Int)} {a1 : Option Addr} {len1 : Nat} {es : List (Int × Int × ByteArray)} {gb : Nat} {ga : Option Addr} {sg mb q : Nat}

theorem G.below (h : G w a0 n ss a1 len1 es gb ga sg mb q) (hb : Below w.heap.size w w') : G w' a0 n ss a1 len1 es gb ga sg mb q :=
  ⟨h.srt.below hb, h.edg.below hb, (hb.cell (World.block_lt_of_cell? _ _ h.c0)).trans h.c0, (hb.cell (World.block_lt_of_cell? _ _ h.c1)).trans h.c1, h.sa, fun h0 => (h.row h0).below hb (h.row h0).lt, h.blk.later hb, h.emap.below hb h.emap.lt, h.small⟩

theorem G.wf (h : G w a0 n ss a1 len1 es gb ga sg mb q) {k : Nat} {x : ByteArray × Int} (hx : ss[k]? = some x) : (Lit.int .i64 x.2).wf = true := by
  obtain ⟨_, _, _, _, _, _, h6⟩ := h.srt.cells k x hx
  exact h6

theorem G.path (h : G w a0 n ss a1 len1 es gb ga sg mb q) (st : Int) (hst : (Lit.int .i64 st).wf = true) :
    Calls Try.prog 12 #[.pointer (some ⟨gb, 0, none⟩), .int .i64 st] w fun e w' => PathPost w n (firstWhy es) st e w' :=
  path12 gb ga n n mb len1 (firstWhy es) st w h.c0 h.c1 h.emap h.small hst

theorem G.path_none (h : G w a0 n ss a1 len1 es gb ga sg mb q) (st : Int) (hst : (Lit.int .i64 st).wf = true) (hno : ∀ p, ¬ Closed n (Ed (firstWhy es)) st p) :
    Calls Try.prog 12 #[.pointer (some ⟨gb, 0, none⟩), .int .i64 st] w fun e w' => e = .returned (.slice none 0 0) ∧ Below w.heap.size w w' := by
  refine (h.path st hst).mono ?_
  rintro e w' ⟨hb, ⟨rfl, _⟩ | ⟨_, _, _, p, _, _, _, hbest, _⟩⟩
  · exact ⟨rfl, hb⟩
  · exact absurd hbest.1 (hno p)

theorem cycle19 (h : G w a0 n ss a1 len1 es gb ga sg mb q) :
    Calls Try.prog 19 #[.pointer (some ⟨gb, 0, none⟩)] w fun e w' => CycPost w n q (firstWhy es) (ss.map (·.2)) e w' := by
  go_enter Try.func19, Try.ntmps19
  go_wp2_with (go_at_call 25; refine (cycle25 gb ga sg n mb len1 q (firstWhy es) ss _ h.c0 h.c1 h.sa h.row h.blk h.srt.len h.emap h.small (fun x hx => by obtain ⟨i, hi, rfl⟩ := List.getElem_of_mem hx; exact h.wf (List.getElem?_eq_getElem hi))).mono ?_; rintro e w' ⟨hb, ⟨rfl, hno⟩ | ⟨cb, ge, ce, p, rfl, h1, h2⟩⟩)
  · have H := hid hno
    clear hno
    go_wp2
    go_ret
    exact ⟨hb, .inl ⟨rfl, H.out⟩⟩
  · have H := hid (And.intro h1 h2)
    clear h1 h2
    go_wp2
    go_ret
    exact ⟨hb, .inr ⟨cb, ge, ce, p, rfl, H.out⟩⟩

end

/-- zzBuildSortsHB1, all that is known behind it. -/
theorem sorts10_full (a : Option Addr) (n c : Nat) (ss : List (ByteArray × Int)) (w : World) (hs : Srt w a n ss) (hn : n ≤ 256) :
    Calls Try.prog 10 #[.slice a n c] w fun e w' => ∃ ga sg q, e = .returned (.slice ga n n) ∧ (0 < n → ga = some ⟨sg, 0, none⟩) ∧ (0 < n → RowAt w' 47 sg 0 n (ptrs q n)) ∧ SortBlk w' q ss ∧ Below w.heap.size w w' := by
  cases a with
  | none =>
    obtain rfl := hs.nil rfl
    have hss : ss = [] := List.eq_nil_of_length_eq_zero hs.len
    subst hss
    exact (sorts10_nil c w).mono fun e w' ⟨h1, h2⟩ => ⟨_, 0, 0, h1, fun h => by omega, fun h => by omega, fun i x hx => by simp at hx, h2 ▸ Below.refl _ _⟩
  | some a => exact (sorts10 a n c ss w hs hn).mono fun e w' ⟨h1, h2, h3, _, h5⟩ => ⟨_, _, _, h1, fun _ => rfl, fun _ => h2, h3, h5⟩

/-- The graph, laid. -/
theorem G.mk' {w w1 w2 : World} {a0 : Option Addr} {n : Nat} {ss : List (ByteArray × Int)} {a1 : Option Addr} {len1 : Nat} {es : List (Int × Int × ByteArray)} {ga : Option Addr} {sg q : Nat}
    (hs : Srt w a0 n ss) (he : Edg w a1 len1 es) (hn : n ≤ 256) (h1 : 0 < n → ga = some ⟨sg, 0, none⟩) (h2 : 0 < n → RowAt w1 47 sg 0 n (ptrs q n)) (h3 : SortBlk w1 q ss) (hb1 : Below w.heap.size w w1)
    (hm : EMap w2 w1.heap.size len1 (firstWhy es)) (hb2 : Below w1.heap.size w1 w2) :
    G (w2.alloc (.cells #[.slice ga n n, .map (some w1.heap.size)] 56)) a0 n ss a1 len1 es w2.heap.size ga sg w1.heap.size q ∧ Below w.heap.size w (w2.alloc (.cells #[.slice ga n n, .map (some w1.heap.size)] 56)) := by
  have hbA : Below w1.heap.size w1 (w2.alloc (.cells #[.slice ga n n, .map (some w1.heap.size)] 56)) := hb2.alloc hb2.size _
  have hbW : Below w.heap.size w (w2.alloc (.cells #[.slice ga n n, .map (some w1.heap.size)] 56)) := hb1.trans (hbA.mono hb1.size)
  exact ⟨⟨hs.below hbW, he.below hbW, by simp, by simp, h1, fun h0 => (h2 h0).below hbA (h2 h0).lt, h3.later hbA, hm.alloc _, hn⟩, hbW⟩

end Go.Proofs.Qxb6601988a
