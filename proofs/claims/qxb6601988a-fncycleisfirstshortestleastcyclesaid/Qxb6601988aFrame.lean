/-
  The arguments of this seat's laws, opened: the two slices of structs as 'Srt', 'Edg'.
-/
import Derived.Test.Qxb6601988aParts
import Derived.ProofKit
import Derived.OpenShut
import Derived.ShutString
import Derived.ChangeOld
import Derived.Deep.SlicePairs
import Derived.Deep.Strs
namespace Go.Proofs.Qxb6601988a
open Go.ChangeShapes Go.WideShapes Go.ChangeAt Go.RowKit Go.Deep

theorem own : ownKnob Try.prog.godebug = none := by kernel_rfl
theorem laidOut : laidOutB Try.prog = true := by kernel_rfl
theorem Try.cells43 : Try.prog.cellsOf 43 = 2 := by kernel_rfl
theorem Try.cells54 : Try.prog.cellsOf 54 = 3 := by kernel_rfl
theorem Try.cells9 : Try.prog.cellsOf 9 = 1 := by kernel_rfl
theorem Try.cells3 : Try.prog.cellsOf 3 = 1 := by kernel_rfl

section
variable {H : Type} {enc : TypeId × Value → H} {W : World}

theorem addr_plain {a : Addr} {v : Value} (h : W.cell? (a.add (0 * 2)) = some v) : a.spot = none := by
  have := World.cell?_spot h
  simpa [Addr.add] using this

theorem open_sorts {a : Option Addr} {len cap : Nat} {d : DataW H} {ps : List MemPlace} (h : DataW.Trod enc Try.prog W 0 (fun _ => true) true 22 (.slice a len cap) d ps) : ∃ ss, Srt W a len ss := by
  obtain ⟨fuel, hf⟩ := h
  rcases open_slice_pairs Try.underlying22 Try.underlying43 Try.cells43 rfl rfl Try.cells9 Try.cells3 hf with ⟨hcs, _⟩ | ⟨x, l, c, m, n, V0, V1, D0, D1, P0, P1, hcs, _, hl, hm, hmm, _, hx⟩
  · simp [Value.cells] at hcs
    obtain ⟨rfl, rfl, rfl⟩ := hcs
    exact ⟨[], rfl, by simp [maxLen], fun _ => rfl, fun k x hx => by simp at hx⟩
  · simp [Value.cells] at hcs
    obtain ⟨rfl, rfl, rfl⟩ := hcs
    have hm' : m = cap := by simpa using hmm
    subst hm'
    have each : ∀ i, i < len → ∃ q : ByteArray × Int, W.cell? (x.add (i * 2)) = some (.string q.1) ∧ W.cell? (x.add (i * 2 + 1)) = some (.int .i64 q.2) ∧ q.1.size ≤ maxLen ∧ (Lit.int .i64 q.2).wf = true := fun i hi => by
      obtain ⟨c0, c1, t0, t1⟩ := hx i (by omega)
      obtain ⟨s, h1, _, h3⟩ := DataW.trod_string Try.underlying9 t0
      obtain ⟨y, h4, _, h6⟩ := DataW.trod_int Try.underlying3 t1
      simp at h1 h4
      exact ⟨(s, y), by rw [c0, h1], by rw [c1, h4], h3, h6⟩
    obtain ⟨q, hq⟩ := choose_lt each
    refine ⟨(List.range len).map q, by simp, by omega, fun h => by simp at h, fun k z hz => ?_⟩
    have hk : k < len := by
      have := (List.getElem?_eq_some_iff.1 hz).1
      simpa using this
    have hzq : z = q k := by
      rw [List.getElem?_map, List.getElem?_range hk] at hz
      simpa using hz.symm
    subst hzq
    obtain ⟨h1, h2, h3, h4⟩ := hq k hk
    obtain ⟨b, off, spot⟩ := x
    have hs : spot = none := addr_plain (hq 0 (by omega)).1
    subst hs
    rw [add_plain] at h1 h2
    exact ⟨b, off, rfl, h1, h2, h3, h4⟩

theorem open_edges {a : Option Addr} {len cap : Nat} {d : DataW H} {ps : List MemPlace} (h : DataW.Trod enc Try.prog W 0 (fun _ => true) true 23 (.slice a len cap) d ps) : ∃ es, Edg W a len es := by
  obtain ⟨fuel, hf⟩ := h
  rcases open_slice Try.underlying23 hf with ⟨hcs, _⟩ | ⟨x, l, c, m, n, D, Pl, hcs, _, hl, hm, hmm, _, hx⟩
  · simp [Value.cells] at hcs
    obtain ⟨rfl, rfl, rfl⟩ := hcs
    exact ⟨[], rfl, by simp [maxLen], fun k x hx => by simp at hx⟩
  · simp [Value.cells] at hcs
    obtain ⟨rfl, rfl, rfl⟩ := hcs
    have hm' : m = cap := by simpa using hmm
    subst hm'
    have each : ∀ i, i < len → ∃ q : Int × Int × ByteArray, W.cell? (x.add (i * 3)) = some (.int .i64 q.1) ∧ W.cell? (x.add (i * 3 + 1)) = some (.int .i64 q.2.1) ∧ W.cell? (x.add (i * 3 + 2)) = some (.string q.2.2) ∧
        (Lit.int .i64 q.1).wf = true ∧ (Lit.int .i64 q.2.1).wf = true ∧ q.2.2.size ≤ maxLen := fun i hi => by
      obtain ⟨cs', h1, h2⟩ := hx i (by omega)
      rw [Try.cells54] at h1
      obtain ⟨_, hlen, hcell⟩ := World.cells?_some h1
      obtain ⟨y0, y1, y2, k, _, _, t0, t1, t2⟩ := trod_struct3 Try.underlying54 h2
      match cs', hlen with
      | [v0, v1, v2], _ =>
        simp only [Try.cells3, Try.cells9] at t0 t1 t2
        obtain ⟨z0, g0, _, w0⟩ := DataW.trod_int Try.underlying3 t0
        obtain ⟨z1, g1, _, w1⟩ := DataW.trod_int Try.underlying3 t1
        obtain ⟨s, g2, _, w2⟩ := DataW.trod_string Try.underlying9 t2
        simp at g0 g1 g2
        have e0 := hcell 0 (by omega)
        have e1 := hcell 1 (by omega)
        have e2 := hcell 2 (by omega)
        rw [add_add] at e0 e1 e2
        refine ⟨(z0, z1, s), by simpa [g0] using e0, by simpa [g1] using e1, by simpa [g2] using e2, w0, w1, w2⟩
    obtain ⟨q, hq⟩ := choose_lt each
    refine ⟨(List.range len).map q, by simp, by omega, fun k z hz => ?_⟩
    have hk : k < len := by
      have := (List.getElem?_eq_some_iff.1 hz).1
      simpa using this
    have hzq : z = q k := by
      rw [List.getElem?_map, List.getElem?_range hk] at hz
      simpa using hz.symm
    subst hzq
    obtain ⟨h1, h2, h3, h4, h5, h6⟩ := hq k hk
    obtain ⟨b, off, spot⟩ := x
    have hs : spot = none := addr_plain (hq 0 (by omega)).1
    subst hs
    rw [add_plain] at h1 h2 h3
    exact ⟨b, off, rfl, h1, h2, h3, h4, h5, h6⟩

end

end Go.Proofs.Qxb6601988a
