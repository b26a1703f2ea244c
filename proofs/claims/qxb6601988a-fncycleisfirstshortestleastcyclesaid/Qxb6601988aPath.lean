/-
  (*graph).pathBack, walked.
-/
import Derived.Test.Qxb6601988aMaps
import Derived.Test.Qxb6601988aBfs
import Derived.Test.Qxb6601988aMat
namespace Go.Proofs.Qxb6601988a
open Go.RowKit Go.Proofs.Qxb6601988a.Bfs
open Go.WideShapes (add_plain)

theorem Try.info3 : (Try.prog.info? 3).map (fun i => (i.zero, i.size, i.bytes)) = some (some (.int .i64 0), 1, 8) := by kernel_rfl

abbrev ints (p : List Int) : List Value := p.map (Value.int .i64)

/-- the edges as a test -/
def Ed (f : Int → Int → Option ByteArray) (x y : Int) : Bool := (f x y).isSome

/-- What pathBack leaves. -/
def PathPost (w : World) (n : Nat) (f : Int → Int → Option ByteArray) (st : Int) (e : Ending) (w' : World) : Prop :=
  Below w.heap.size w w' ∧ ((e = .returned (.slice none 0 0) ∧ ∀ q, ¬ Closed n (Ed f) st q) ∨
    ∃ g off cap p, e = .returned (.slice (some ⟨g, off, none⟩) p.length cap) ∧ w.heap.size ≤ g ∧ RowAt w' 3 g off cap (ints p) ∧ Best n (Ed f) st p ∧ p.Nodup)

/-- 'q[1:]' -/
theorem slice_tail {w : World} {g off cap : Nat} {x : Value} {xs : List Value} (h : RowAt w 3 g off cap (x :: xs)) (n : Nat) (hn : xs.length = n) :
    ∃ off', (∀ w', (Instr.slice 32 (.slice (some ⟨g, off, none⟩) (n + 1) cap) (some (.int .i64 1)) none none).run Try.prog w' = .ok (.slice (some ⟨g, off', none⟩) n (cap - 1)) w') ∧ RowAt w 3 g off' (cap - 1) xs := by
  obtain ⟨i0, hi, hz0, hz1, hz2⟩ := info_parts Try.info3
  have hle := h.le
  simp only [List.length_cons] at hle
  by_cases hc : cap = 1
  · subst hc
    have hxs : xs = [] := List.eq_nil_of_length_eq_zero (by omega)
    subst hxs
    subst hn
    refine ⟨off, fun w' => ?_, h.emptied (by omega)⟩
    simp [Instr.slice, run_underlying Try.underlying32, Instr.sliceBounds, Instr.sliceBound, asIntOf, sizeOf, typeInfo, hi]
  · refine ⟨off + 1, fun w' => ?_, h.tail⟩
    simp [Instr.slice, run_underlying Try.underlying32, Instr.sliceBounds, Instr.sliceBound, asIntOf, sizeOf, typeInfo, hi, hz1, hc, add_plain]
    intro h'
    omega

theorem Rp_suffix {came : Int → Option Int} {st : Int} : ∀ {dn : List Int} {s : Int} {rest : List Int}, Rp came st (dn ++ s :: rest) → Rp came st (s :: rest)
  | [], _, _, h => h
  | [_], _, _, h => h.2.2
  | _ :: y :: l, _, _, h => Rp_suffix (dn := y :: l) h.2.2

theorem wf_of {x : Int} {n : Nat} (hn : n ≤ 256) (h : inR n x) : (Lit.int .i64 x).wf = true := by
  obtain ⟨h0, h1⟩ := h
  exact WalkArith.wf_i64 (by omega)

/-- The worlds of the search. -/
structure PW (w wr : World) (n : Nat) (f : Int → Int → Option ByteArray) (st : Int) (D : List Int) (v0 : Int) (Q : List Int) (k : Nat) (came : Int → Option Int) (T : Int → List Int) : Prop where
  st : St n (Ed f) st D v0 Q k came T
  came : IMap wr w.heap.size (D ++ v0 :: Q).length came
  below : Below w.heap.size w wr

set_option maxHeartbeats 1000000 in
set_option maxRecDepth 100000 in
theorem path24 (gb : Nat) (sa : Option Addr) (n sc mb m : Nat) (f : Int → Int → Option ByteArray) (st : Int) (w : World) (c0 : w.cell? ⟨gb, 0, none⟩ = some (.slice sa n sc)) (c1 : w.cell? ⟨gb, 1, none⟩ = some (.map (some mb)))
    (hm : EMap w mb m f) (hn : n ≤ 256) (hst : (Lit.int .i64 st).wf = true) :
    Calls Try.prog 24 #[.pointer (some ⟨gb, 0, none⟩), .int .i64 st] w fun e w' => PathPost w n f st e w' := by
  have hmm := @run_makeMap Try.prog
  obtain ⟨i0, hi, hz0, hz1, hz2⟩ := info_parts Try.info3
  go_enter Try.func24, Try.ntmps24
  go_wp2_with fail
  go_loopg [6] (n + 2) (fun gk v wr =>
    (∃ g off cap, v = .slice (some ⟨g, off, none⟩) 0 cap ∧ (∀ q, ¬ Closed n (Ed f) st q) ∧ Below w.heap.size w wr) ∨
    ∃ D v0 Q came T g off cap, v = .slice (some ⟨g, off, none⟩) (Q.length + 1) cap ∧ PW w wr n f st D v0 Q 0 came T ∧ RowAt wr 3 g off cap (ints (v0 :: Q)) ∧ w.heap.size < g ∧ n + 2 ≤ gk + D.length)
  case atStart =>
    refine .inr ⟨[], st, [], _, _, w.heap.size + 1, 0, 1, rfl, ⟨st_start, ((IMap.made w).alloc _).mono (by simp), ((Below.refl _ _).alloc (Nat.le_refl _) _).alloc (by simp) _⟩, ?_, by omega, by simp⟩
    have := RowAt.lit (w.alloc (.map #[] 0)) 3 [.int .i64 st] (by simp [maxLen])
    simpa using this
  case round =>
    obtain ⟨gOut, rfl⟩ : ∃ x, x = gk := ⟨_, rfl⟩
    rcases hrel with ⟨g, off, cap, rfl, hno, hb⟩ | ⟨D, v0, Q, came, T, g, off, cap, rfl, hpw, hrow, hgw, hgk⟩
    · have Hno := hid hno
      clear hno
      go_wp2
      go_ret
      exact ⟨hb, .inl ⟨rfl, Hno.out⟩⟩
    · obtain ⟨off', hsl, hrow'⟩ := slice_tail hrow Q.length (by simp)
      have hcell : wr.cell? ⟨g, off, none⟩ = some (.int .i64 v0) := by have := hrow.cell_some (j := 0) (u := .int .i64 v0) rfl; simpa using this
      have hcap := hrow.max
      unfold maxLen at hcap
      have d0 : wr.cell? ⟨gb, 0, none⟩ = some (.slice sa n sc) := (hpw.below.cell (World.block_lt_of_cell? _ _ c0)).trans c0
      have d1 : wr.cell? ⟨gb, 1, none⟩ = some (.map (some mb)) := (hpw.below.cell (World.block_lt_of_cell? _ _ c1)).trans c1
      have hQ := hpw.st.size
      simp only [List.length_append, List.length_cons] at hQ
      have Hgk := hid hgk
      clear hrow hgk
      go_wp2_with fail
      go_loopg [6, 31] n (fun gi v i ws => ∃ (k : Nat) (Q : List Int) (came : Int → Option Int) (T : Int → List Int) (g off cap : Nat), k ≤ n ∧ i = .int .i64 k ∧ v = .slice (some ⟨g, off, none⟩) Q.length cap ∧
        PW w ws n f st D v0 Q k came T ∧ RowAt ws 3 g off cap (ints Q) ∧ w.heap.size < g ∧ n ≤ gi + k)
      case atStart => exact ⟨0, Q, came, T, g, off', cap - 1, Nat.zero_le _, rfl, rfl, hpw, hrow', hgw, by omega⟩
      case round =>
        clear hpw hrow' hgw hsl hcell hcap hQ d0 d1
        obtain ⟨k, Qi, ci, Ti, gq, oq, cq, hk, rfl, rfl, hpw, hrow, hgw, hgi⟩ := hrel
        obtain ⟨gIn, rfl⟩ : ∃ x, x = gk := ⟨_, rfl⟩
        have Hgi := hid hgi
        clear hgi
        have hb := hpw.below
        have hO := hpw.st.size
        simp only [List.length_append, List.length_cons] at hO
        by_cases hlt : k < n
        · have d0 : wr.cell? ⟨gb, 0, none⟩ = some (.slice sa n sc) := (hb.cell (World.block_lt_of_cell? _ _ c0)).trans c0
          have d1 : wr.cell? ⟨gb, 1, none⟩ = some (.map (some mb)) := (hb.cell (World.block_lt_of_cell? _ _ c1)).trans c1
          have hme : EMap wr mb m f := hm.below hb hm.lt
          have wk : (Lit.int .i64 (k : Int)).wf = true := WalkArith.wf_i64 (by omega)
          have wv : (Lit.int .i64 v0).wf = true := by
            rcases hpw.st.range (x := v0) (by simp) with h | h
            · rw [h]; exact hst
            · exact wf_of hn h
          by_cases he : Ed f v0 k = true
          · have he' : (f v0 k).isSome = true := he
            by_cases hks : (k : Int) = st
            · have hkb : ((k : Int) == st) = true := by simpa using hks
              have hsr : inR n st := by rw [← hks]; exact ⟨by omega, by omega⟩
              have hE : Ed f v0 st = true := by rw [← hks]; exact he
              obtain ⟨hnd, hsub, _, hlast, hrp⟩ := hpw.st.path v0 (by simp)
              have hrange : ∀ x ∈ Ti v0, inR n x := fun x hx => by
                rcases hpw.st.range (hsub x hx) with h | h
                · rw [h]; exact hsr
                · exact h
              have hTl := nodup_le_int n (Ti v0) hnd hrange
              obtain ⟨tl, htl⟩ : ∃ tl, (Ti v0).reverse = v0 :: tl := by
                have hh : (Ti v0).reverse.head? = some v0 := by rw [List.head?_reverse]; exact hlast
                match hm : (Ti v0).reverse with
                | [] => rw [hm] at hh; cases hh
                | y :: l => rw [hm] at hh; simp at hh; exact ⟨l, by rw [hh]⟩
              have HB := hid (show Best n (Ed f) st (Ti v0) ∧ (Ti v0).Nodup ∧ (∀ x ∈ Ti v0, inR n x) ∧ Rp ci st (Ti v0).reverse ∧ (Ti v0).reverse = v0 :: tl from ⟨hpw.st.found hsr hE, hnd, hrange, hrp, htl⟩)
              have him := hpw.came
              clear hnd hsub hlast hrp hrange htl hsr hE he hks
              go_wp2_with (first
                | (at_lookup; refine wpList_look_e _ rfl _ _ rfl hme rfl v0 k wv wk rfl ?_))
              have hbs := hb.size
              go_loopg [11, 12] ((Ti v0).length) (fun gp v sl w3 => ∃ (dn : List Int) (sv : Int) (rest : List Int) (g off cap : Nat), Hid ((Ti v0).reverse = dn ++ sv :: rest) ∧ sl = .int .i64 sv ∧ v = .slice (some ⟨g, off, none⟩) (dn.length + 1) cap ∧
                RowAt w3 3 g off cap (ints (sv :: dn.reverse)) ∧ w.heap.size < g ∧ IMap w3 w.heap.size (D ++ v0 :: Qi).length ci ∧ Below w.heap.size w w3 ∧ rest.length < gp)
              case atStart =>
                have hl := HB.out.2.2.2.2
                have h0 := congrArg List.length hl
                simp at h0
                have hlt0 := him.lt
                refine ⟨[], v0, tl, wr.heap.size, 0, 1, hl, rfl, rfl, ?_, hlt0, him.alloc _, hb.alloc hb.size _, by omega⟩
                have := RowAt.lit wr 3 [.int .i64 v0] (by simp [maxLen])
                simpa using this
              case round =>
                clear hrow hgw hme wk wv hkb d0 d1 him hb
                obtain ⟨gP, rfl⟩ : ∃ x, x = gk := ⟨_, rfl⟩
                obtain ⟨dn, sv, rest, gr, orr, cr, hT, rfl, rfl, hrow, hgw, him, hb, hgp⟩ := hrel
                have Hgp := hid hgp
                clear hgp
                obtain ⟨hbest, hnd, hrange, hrp, _⟩ := HB.out
                have hlen := congrArg List.length hT.out
                simp at hlen
                have hdl : dn.length ≤ 256 := by omega
                have hsub := Rp_suffix (hT.out ▸ hrp)
                have hmem : sv ∈ Ti v0 := by have : sv ∈ (Ti v0).reverse := by rw [hT.out]; simp
                                             simpa using this
                have hsv := hrange sv hmem
                have wsv := wf_of hn hsv
                have hbs := him.lt
                by_cases hs : sv = st
                · have hsb : (sv != st) = false := by simpa using hs
                  have hrest : rest = [] := by
                    cases rest with
                    | nil => rfl
                    | cons y l => exact absurd hs hsub.1
                  have HP := hid (show Ti v0 = sv :: dn.reverse by
                    have := congrArg List.reverse hT.out
                    rw [hrest] at this
                    simpa using this)
                  have HB2 := hid (And.intro hbest hnd)
                  clear hbest hnd hrange hrp hlen hsub hrest hs
                  go_wp2
                  go_ret
                  refine ⟨hb, .inr ⟨gr, orr, cr, sv :: dn.reverse, by simp, by omega, hrow, ?_⟩⟩
                  have := HB2.out
                  rw [HP.out] at this
                  exact this
                · have hsb : (sv != st) = true := by simpa using hs
                  obtain ⟨y, l, hrest, hcy⟩ : ∃ y l, rest = y :: l ∧ ci sv = some y := by
                    cases rest with
                    | nil => exact absurd hsub hs
                    | cons y l => exact ⟨y, l, rfl, hsub.2.1⟩
                  have HT2 := hid (show (Ti v0).reverse = (dn ++ [sv]) ++ y :: l by rw [hT.out, hrest]; simp)
                  have Hl := hid (show l.length < gP - 1 by have := Hgp.out; rw [hrest] at this; simp at this; omega)
                  clear hbest hnd hrange hrp hlen hsub hrest hs
                  go_wp2_with (first
                    | (at_lookup; refine wpList_look_i1 _ rfl _ _ rfl him rfl sv wsv rfl ?_)
                    | (at_builtin; refine wpList_append_row rfl _ _ 32 rfl i0 (.int .i64 0) 8 Try.underlying32 hi hz0 hz1 hz2 rfl (RowAt.lit wr 3 [.int .i64 y] (by simp [maxLen])) 1 rfl rfl ⟨gr, orr, none⟩ (dn.length + 1) cr (ints (sv :: dn.reverse)) rfl (by simp) (hrow.alloc _).news (ints_oneCell .i64 _) (by unfold maxLen; omega) (by omega) ?_; intro g' off' cap' w2 hrow2 hg2 hloc)
                    | (at_lookup; refine wpList_look_i1 _ rfl _ _ rfl ((him.alloc _).kept hg2 (by simp; omega)) rfl sv wsv rfl ?_))
                  go_roundg (gP - 1)
                  case measure => have := Hl.out; omega
                  case rel =>
                    have s2 := hg2.size
                    simp only [World.size_alloc] at s2 hloc
                    have hb2 : Below w.heap.size w w2 := (hb.alloc hb.size _).grown hg2 (by simp; omega) (fun j hj => by cases hj; omega)
                    refine ⟨dn ++ [sv], y, l, g', off', cap', HT2.out, rfl, by simp; omega, by simpa using hrow2, ?_, (him.alloc _).kept hg2 (by simp; omega), hb2, Hl.out⟩
                    rcases hloc with h | h <;> omega
            · have hkb : ((k : Int) == st) = false := by simpa using hks
              by_cases hc : (ci k).isSome = true
              · have Hnext := hid (hpw.st.seen hc)
                have him := hpw.came
                clear he hks
                go_wp2_with (first
                  | (at_lookup; refine wpList_look_e _ rfl _ _ rfl hme rfl v0 k wv wk rfl ?_)
                  | (at_lookup; refine wpList_look_i _ rfl _ _ rfl him rfl k wk rfl ?_))
                go_roundg (gIn - 1)
                case measure => have := Hgi.out; omega
                case rel => exact ⟨k + 1, Qi, ci, Ti, gq, oq, cq, by omega, by go_num, rfl, ⟨Hnext.out, hpw.came, hb⟩, hrow, hgw, by have := Hgi.out; omega⟩
              · have hc' : (ci k).isSome = false := by simpa using hc
                have Hnext := hid (hpw.st.new he hlt hks hc')
                have him := hpw.came
                have hlq : w.heap.size ≠ gq := by omega
                clear he hks hc
                go_wp2_with (first
                  | (at_lookup; refine wpList_look_e _ rfl _ _ rfl hme rfl v0 k wv wk rfl ?_)
                  | (at_lookup; refine wpList_look_i _ rfl _ _ rfl him rfl k wk rfl ?_)
                  | (at_mapUpdate; refine wpList_store_i _ rfl _ _ _ rfl (fun x => if x = (k : Int) then some v0 else ci x) him (by simp [maxLen]; omega) rfl k wk rfl v0 wv rfl (fun x => rfl) ?_; intro w1 hca1 hg1)
                  | (at_builtin; refine wpList_append_row rfl _ _ 32 rfl i0 (.int .i64 0) 8 Try.underlying32 hi hz0 hz1 hz2 rfl ((hrow.kept hg1 (by simp; omega)).alloc _) Qi.length (by simp) rfl ⟨w1.heap.size, 0, none⟩ 1 1 [.int .i64 k] rfl rfl (cell_one_new _ _ _) (ints_oneCell .i64 [(k : Int)]) (by unfold maxLen; omega) (by omega) ?_; intro g' off' cap' w2 hrow2 hg2 hloc))
                go_roundg (gIn - 1)
                case measure => have := Hgi.out; omega
                case rel =>
                  have s1 := hg1.size
                  have s2 := hg2.size
                  have s0 := hb.size
                  simp only [World.size_alloc] at s2 hloc
                  have hb1 : Below w.heap.size w w1 := hb.grown hg1 hb.size (fun j hj => by cases hj; exact Nat.le_refl _)
                  have hb2 : Below w.heap.size w w2 := (hb1.alloc hb1.size _).grown hg2 (by simp; omega) (fun j hj => by cases hj; omega)
                  have hca2 := (hca1.alloc (.cells #[.int .i64 (k : Int)] 3)).kept hg2 (by simp; omega)
                  refine ⟨k + 1, Qi ++ [(k : Int)], _, _, g', off', cap', by omega, by go_num, by simp, ⟨Hnext.out, hca2.mono (by simp; omega), hb2⟩, by simpa using hrow2, ?_, by have := Hgi.out; omega⟩
                  rcases hloc with h | h <;> omega
          · have he' : (f v0 k).isSome = false := by simpa [Ed] using he
            have Hnext := hid (hpw.st.skip (by simpa using he))
            clear he
            go_wp2_with (at_lookup; refine wpList_look_e _ rfl _ _ rfl hme rfl v0 k wv wk rfl ?_)
            go_roundg (gIn - 1)
            case measure => have := Hgi.out; omega
            case rel => exact ⟨k + 1, Qi, ci, Ti, gq, oq, cq, by omega, by go_num, rfl, ⟨Hnext.out, hpw.came, hb⟩, hrow, hgw, by have := Hgi.out; omega⟩
        · have Hkn := hid (show k = n by omega)
          go_wp2
          go_roundg (gOut - 1)
          case measure => have := Hgk.out; have := Hkn.out; omega
          case rel =>
            have hkn := Hkn.out
            have hst' := hpw.st
            have hca := hpw.came
            rw [hkn] at hst'
            match Qi, hst', hrow, hO, hca with
            | [], hst', _, _, _ => exact .inl ⟨gq, oq, cq, rfl, hst'.over, hb⟩
            | q :: Qr, hst', hrow, _, hca => exact .inr ⟨D ++ [v0], q, Qr, ci, Ti, gq, oq, cq, rfl, ⟨hst'.next, by simpa using hca, hb⟩, hrow, hgw, by have := Hgk.out; simp; omega⟩

end Go.Proofs.Qxb6601988a
