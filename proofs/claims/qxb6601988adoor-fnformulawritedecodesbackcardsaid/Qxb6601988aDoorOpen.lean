/-
  The first argument, opened: the datum's cells as a forest.
-/
import Derived.Test.Qxb6601988aDoorIn
import Derived.ProofKit
import Derived.OpenShut
import Derived.ShutString
import Derived.ChangeOld
import Derived.Deep.SlicePairs
import Derived.Deep.Strs
namespace Go.Proofs.Qxb6601988aDoor
open Go.ChangeShapes Go.WideShapes Go.ChangeAt Go.RowKit Go.Deep

theorem Tryd.cells26 : Tryd.prog.cellsOf 26 = 5 := by kernel_rfl
theorem Tryd.cells3 : Tryd.prog.cellsOf 3 = 1 := by kernel_rfl
theorem Tryd.cells22 : Tryd.prog.cellsOf 22 = 1 := by kernel_rfl
theorem Tryd.cells23 : Tryd.prog.cellsOf 23 = 1 := by kernel_rfl
theorem Tryd.cells24 : Tryd.prog.cellsOf 24 = 1 := by kernel_rfl
theorem Tryd.cells4 : Tryd.prog.cellsOf 4 = 1 := by kernel_rfl
theorem Tryd.cells50 : Tryd.prog.cellsOf 50 = 1 := by kernel_rfl
theorem Tryd.cells53 : Tryd.prog.cellsOf 53 = 3 := by kernel_rfl
theorem Tryd.cells9 : Tryd.prog.cellsOf 9 = 1 := by kernel_rfl

def ofL {α : Type} : List (α × BT α) → BT α
  | [] => .nil
  | x :: r => .node 0 0 x.1 x.2 (ofL r)

theorem toL_ofL {α : Type} (l : List (α × BT α)) : toL (ofL l) = l := by
  induction l with
  | nil => rfl
  | cons x r ih => simp [ofL, toL, ih]

theorem len_ofL {α : Type} (l : List (α × BT α)) : len (ofL l) = l.length := by rw [← toL_length, toL_ofL]

section
variable {H : Type} {enc : TypeId × Value → H} {W : World}

/-- These cells read as a value of type t. -/
def Tr (enc : TypeId × Value → H) (W : World) (fuel : Nat) (t : TypeId) (cs : List Value) : Prop := ∃ x, DataW.trod enc Tryd.prog W 0 (fun _ => true) true fuel t cs = some x

theorem wfI_of {v : Int} (h : (Lit.int .i64 v).wf = true) : wfI v := bounds_i64 h

set_option maxRecDepth 100000 in
theorem open_sym {fuel : Nat} {cs : List Value} (h0 : Tr enc W fuel 22 cs) : ∃ p s, cs = [.pointer p] ∧ SymIn W p s := by
  obtain ⟨x, h⟩ := h0
  rcases DataW.trod_pointer Tryd.underlying22 h with ⟨rfl, _⟩ | ⟨a, cs', y, n, _, rfl, _, hc, hy⟩
  · exact ⟨none, none, rfl, .inl ⟨rfl, rfl⟩⟩
  · rw [Tryd.cells50] at hc
    obtain ⟨_, hlen, hcell⟩ := World.cells?_some hc
    obtain ⟨xs, n', _, _, _, hxs, hf⟩ := DataW.trod_struct Tryd.underlying50 hy
    match cs', hlen, xs, hxs with
    | [v0], _, [x0], _ =>
      have t0 := hf 0 _ rfl
      obtain ⟨s, g0, _, hsz⟩ := DataW.trod_string (cs := ([v0].drop 0).take (Tryd.prog.cellsOf 9)) Tryd.underlying9 (show DataW.trod enc Tryd.prog W 0 (fun _ => true) true n' 9 _ = some x0 from t0)
      rw [Tryd.cells9] at g0
      simp at g0
      have e0 := hcell 0 (by omega)
      obtain ⟨pb, po, spot⟩ := a
      have e0' : W.cell? ⟨pb, po, spot⟩ = some (.string s) := by simpa [g0, Addr.add] using e0
      have hs : spot = none := by simpa using World.cell?_spot e0'
      subst hs
      exact ⟨_, some s, rfl, .inr ⟨s, pb, po, rfl, rfl, e0', hsz⟩⟩

/-- What a slice of terms reads as. -/
def OpenT (W : World) (cs : List Value) : Prop := ∃ sl n cap, ∃ t : TL, cs = [.slice sl n cap] ∧ n = len t ∧ n ≤ maxLen ∧ ∃ b o, (n = 0 ∨ sl = some ⟨b, o, none⟩) ∧ All (HdT W) t (row W b o 3)

theorem OpenT.nil (W : World) : OpenT W [.slice none 0 0] := ⟨none, 0, 0, .nil, rfl, rfl, by simp [maxLen], 0, 0, .inl rfl, trivial⟩

set_option maxRecDepth 100000 in
theorem open_terms (fuel : Nat) : ∀ cs, Tr enc W fuel 23 cs → OpenT W cs := by
  induction fuel using Nat.strongRecOn with
  | _ fuel ih =>
    rintro cs ⟨x, h⟩
    rcases DataW.trod_slice Tryd.underlying23 h with ⟨rfl, _⟩ | ⟨a, ln, cap, elems, rest, n, hfu, rfl, _, _, hl, hm, hlen, hel, _, _⟩
    · exact OpenT.nil W
    · have each : ∀ i, i < ln → ∃ q : T1, ∃ p sl n' cap', W.cell? (a.add (i * 3)) = some (.pointer p) ∧ W.cell? (a.add (i * 3 + 1)) = some (.int .i64 q.1.2) ∧ W.cell? (a.add (i * 3 + 2)) = some (.slice sl n' cap') ∧ InT W q p sl n' cap' := fun i hi => by
        have h1 := hel i hi
        rw [List.getElem?_eq_getElem (by omega), Option.bind_eq_some_iff] at h1
        obtain ⟨cs', hc, ht⟩ := h1
        rw [Tryd.cells53] at hc
        obtain ⟨_, hlen', hcell⟩ := World.cells?_some hc
        obtain ⟨xs, n', hn', _, _, hxs, hf⟩ := DataW.trod_struct Tryd.underlying53 ht
        match cs', hlen', xs, hxs with
        | [v0, v1, v2], _, [x0, x1, x2], _ =>
          have t0 := hf 0 _ rfl
          have t1 := hf 1 _ rfl
          have t2 := hf 2 _ rfl
          obtain ⟨p, s, g0, hsym⟩ := open_sym (enc := enc) (W := W) (fuel := n') (cs := ([v0, v1, v2].drop 0).take (Tryd.prog.cellsOf 22)) ⟨x0, t0⟩
          obtain ⟨v, g1, _, hwf⟩ := DataW.trod_int (cs := ([v0, v1, v2].drop 1).take (Tryd.prog.cellsOf 3)) Tryd.underlying3 (show DataW.trod enc Tryd.prog W 0 (fun _ => true) true n' 3 _ = some x1 from t1)
          obtain ⟨sl, m, cap', t, g2, hm1, hm2, b, o, hbo, hall⟩ := ih n' (by omega) (([v0, v1, v2].drop 2).take (Tryd.prog.cellsOf 23)) ⟨x2, t2⟩
          rw [Tryd.cells22] at g0
          rw [Tryd.cells3] at g1
          rw [Tryd.cells23] at g2
          simp at g0 g1 g2
          have e0 := hcell 0 (by omega)
          have e1 := hcell 1 (by omega)
          have e2 := hcell 2 (by omega)
          rw [add_add] at e0 e1 e2
          refine ⟨((s, v), t), p, sl, m, cap', by simpa [g0] using e0, by simpa [g1] using e1, by simpa [g2] using e2, hsym, wfI_of hwf, hm1, hm2, b, o, hbo, hall⟩
      have inh : Inhabited T1 := ⟨((none, 0), .nil)⟩
      obtain ⟨q, hq⟩ := choose_lt each
      rcases Nat.eq_zero_or_pos ln with h0 | h0
      · subst h0
        exact ⟨some a, 0, cap, .nil, rfl, rfl, by omega, 0, 0, .inl rfl, trivial⟩
      · obtain ⟨b, o, spot⟩ := a
        have hs : spot = none := by
          obtain ⟨p, sl, n', cap', h1, _⟩ := hq 0 h0
          have := World.cell?_spot h1
          simpa [Addr.add] using this
        subst hs
        refine ⟨_, ln, cap, ofL ((List.range ln).map q), rfl, by rw [len_ofL]; simp, by omega, b, o, .inr rfl, All.mk fun k y hy => ?_⟩
        rw [toL_ofL] at hy
        have hk : k < ln := by
          have := (List.getElem?_eq_some_iff.1 hy).1
          simpa using this
        have hyq : y = q k := by
          rw [List.getElem?_map, List.getElem?_range hk] at hy
          simpa using hy.symm
        subst hyq
        obtain ⟨p, sl, n', cap', h1, h2, h3, h4⟩ := hq k hk
        rw [add_plain] at h1 h2 h3
        obtain ⟨b', o', h5, h6⟩ := h4.sub
        obtain rfl := h4.len
        exact ⟨p, sl, cap', by simpa [row] using h1, by simpa [row, Nat.add_assoc] using h2, by simpa [row, Nat.add_assoc] using h3, h4.sym, h4.wf, h4.max, b', o', h5, h6⟩

def OpenF (W : World) (cs : List Value) : Prop := ∃ xl n cap, ∃ t : FL, cs = [.slice xl n cap] ∧ n = len t ∧ n ≤ maxLen ∧ ∃ b o, (n = 0 ∨ xl = some ⟨b, o, none⟩) ∧ All (HdF W) t (row W b o 5)

/-- The five cells of a formula. -/
def OpenF1 (W : World) (cs : List Value) : Prop := ∃ q : F1, ∃ p sl m cap xl n xcap, cs = [.int .i64 q.1.1, .pointer p, .slice sl m cap, .slice xl n xcap, .bool q.1.2.2.1] ∧ InF W q p sl m cap xl n xcap

set_option maxRecDepth 100000 in
theorem open_form1 {fuel : Nat} {cs : List Value} (hrec : ∀ k, k < fuel → ∀ cs, Tr enc W k 24 cs → OpenF W cs) (h0 : Tr enc W fuel 26 cs) : OpenF1 W cs := by
  obtain ⟨x, ht⟩ := h0
  obtain ⟨xs, n', hn', _, hcl, hxs, hf⟩ := DataW.trod_struct Tryd.underlying26 ht
  rw [Tryd.cells26] at hcl
  match cs, hcl, xs, hxs with
  | [v0, v1, v2, v3, v4], _, [x0, x1, x2, x3, x4], _ =>
    have t0 := hf 0 _ rfl
    have t1 := hf 1 _ rfl
    have t2 := hf 2 _ rfl
    have t3 := hf 3 _ rfl
    have t4 := hf 4 _ rfl
    obtain ⟨v, g0, _, hwf⟩ := DataW.trod_int (cs := ([v0, v1, v2, v3, v4].drop 0).take (Tryd.prog.cellsOf 3)) Tryd.underlying3 (show DataW.trod enc Tryd.prog W 0 (fun _ => true) true n' 3 _ = some x0 from t0)
    obtain ⟨p, s, g1, hsym⟩ := open_sym (enc := enc) (W := W) (fuel := n') (cs := ([v0, v1, v2, v3, v4].drop 1).take (Tryd.prog.cellsOf 22)) ⟨x1, t1⟩
    obtain ⟨sl, m, cap, t, g2, hm1, hm2, hA⟩ := open_terms (enc := enc) (W := W) n' (([v0, v1, v2, v3, v4].drop 2).take (Tryd.prog.cellsOf 23)) ⟨x2, t2⟩
    obtain ⟨xl, n, xcap, tx, g3, hn1, hn2, hX⟩ := hrec n' (by omega) (([v0, v1, v2, v3, v4].drop 3).take (Tryd.prog.cellsOf 24)) ⟨x3, t3⟩
    obtain ⟨bl, g4, _⟩ := DataW.trod_bool (cs := ([v0, v1, v2, v3, v4].drop 4).take (Tryd.prog.cellsOf 4)) Tryd.underlying4 (show DataW.trod enc Tryd.prog W 0 (fun _ => true) true n' 4 _ = some x4 from t4)
    rw [Tryd.cells3] at g0
    rw [Tryd.cells22] at g1
    rw [Tryd.cells23] at g2
    rw [Tryd.cells24] at g3
    rw [Tryd.cells4] at g4
    simp at g0 g1 g2 g3 g4
    subst g0 g1 g2 g3 g4
    exact ⟨((v, s, bl, t), tx), p, sl, m, cap, xl, n, xcap, rfl, hsym, wfI_of hwf, hm1, hm2, hn1, hn2, hA, hX⟩

set_option maxRecDepth 100000 in
theorem open_forms (fuel : Nat) : ∀ cs, Tr enc W fuel 24 cs → OpenF W cs := by
  induction fuel using Nat.strongRecOn with
  | _ fuel ih =>
    rintro cs ⟨x, h⟩
    rcases DataW.trod_slice Tryd.underlying24 h with ⟨rfl, _⟩ | ⟨a, ln, cap, elems, rest, n, hfu, rfl, _, _, hl, hm, hlen, hel, _, _⟩
    · exact ⟨none, 0, 0, .nil, rfl, rfl, by simp [maxLen], 0, 0, .inl rfl, trivial⟩
    · have each : ∀ i, i < ln → ∃ q : F1, ∃ p sl m cap' xl n' xcap, W.cell? (a.add (i * 5)) = some (.int .i64 q.1.1) ∧ W.cell? (a.add (i * 5 + 1)) = some (.pointer p) ∧ W.cell? (a.add (i * 5 + 2)) = some (.slice sl m cap') ∧ W.cell? (a.add (i * 5 + 3)) = some (.slice xl n' xcap) ∧ W.cell? (a.add (i * 5 + 4)) = some (.bool q.1.2.2.1) ∧ InF W q p sl m cap' xl n' xcap := fun i hi => by
        have h1 := hel i hi
        rw [List.getElem?_eq_getElem (by omega), Option.bind_eq_some_iff] at h1
        obtain ⟨cs', hc, ht⟩ := h1
        rw [Tryd.cells26] at hc
        obtain ⟨_, hlen', hcell⟩ := World.cells?_some hc
        obtain ⟨q, p, sl, m, cap', xl, n', xcap, rfl, hF⟩ := open_form1 (enc := enc) (W := W) (fuel := n) (fun k hk cs h => ih k (by omega) cs h) ⟨_, ht⟩
        have e0 := hcell 0 (by omega)
        have e1 := hcell 1 (by omega)
        have e2 := hcell 2 (by omega)
        have e3 := hcell 3 (by omega)
        have e4 := hcell 4 (by omega)
        rw [add_add] at e0 e1 e2 e3 e4
        exact ⟨q, p, sl, m, cap', xl, n', xcap, by simpa using e0, by simpa using e1, by simpa using e2, by simpa using e3, by simpa using e4, hF⟩
      have inh : Inhabited F1 := ⟨((0, none, false, .nil), .nil)⟩
      obtain ⟨q, hq⟩ := choose_lt each
      rcases Nat.eq_zero_or_pos ln with h0 | h0
      · subst h0
        exact ⟨some a, 0, cap, .nil, rfl, rfl, by omega, 0, 0, .inl rfl, trivial⟩
      · obtain ⟨b, o, spot⟩ := a
        have hs : spot = none := by
          obtain ⟨p, sl, m, cap', xl, n', xcap, h1, _⟩ := hq 0 h0
          have := World.cell?_spot h1
          simpa [Addr.add] using this
        subst hs
        refine ⟨_, ln, cap, ofL ((List.range ln).map q), rfl, by rw [len_ofL]; simp, by omega, b, o, .inr rfl, All.mk fun k y hy => ?_⟩
        rw [toL_ofL] at hy
        have hk : k < ln := by
          have := (List.getElem?_eq_some_iff.1 hy).1
          simpa using this
        have hyq : y = q k := by
          rw [List.getElem?_map, List.getElem?_range hk] at hy
          simpa using hy.symm
        subst hyq
        obtain ⟨p, sl, m, cap', xl, n', xcap, h1, h2, h3, h4, h5, h6⟩ := hq k hk
        rw [add_plain] at h1 h2 h3 h4 h5
        obtain rfl := h6.lenX
        exact ⟨p, sl, m, cap', xl, xcap, by simpa [row] using h1, by simpa [row, Nat.add_assoc] using h2, by simpa [row, Nat.add_assoc] using h3, by simpa [row, Nat.add_assoc] using h4, by simpa [row, Nat.add_assoc] using h5, h6.sym, h6.wf, h6.lenA, h6.maxA, h6.maxX, h6.subA, h6.subX⟩

/-- The first argument. -/
theorem open_arg {fuel : Nat} {cs : List Value} (h : Tr enc W fuel 26 cs) : OpenF1 W cs := open_form1 (fun k _ cs h => open_forms k cs h) h

end

end Go.Proofs.Qxb6601988aDoor
