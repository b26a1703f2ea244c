/-
  (*term).write, (*formula).write.
-/
import Derived.Test.Qxb6601988aDoorForm
import Derived.Lib.AppendIntMem
namespace Go.Proofs.Qxb6601988aDoor
open Go.RowKit
open Go.Deep (BT)

theorem pow10At : Tryd.prog.globalNamed Tryd.powName = some 0 := by kernel_rfl

/-- The table that Itoa reads. -/
def Tab (w : World) : Prop := Lib.TabIs Tryd.prog w Tryd.powName .u64 Lib.pow10Tab

theorem Tab.below {w w' : World} {B : Nat} (h : Tab w) (hb : Below B w w') (hB : 3 ≤ B) : Tab w' := var?_below hb pow10At (by omega) h

theorem grown_of_below {w w' : World} (hb : Below w.heap.size w w') : w.grownBy w' none := ⟨hb.os, hb.tape, hb.output, hb.size, fun k hk _ => hb.block k hk⟩

theorem builder_below {B b : Nat} {bs : List Value} {w w' : World} (h : Lib.IsBuilderF 31 5 B b bs w) (hb : Below w.heap.size w w') : Lib.IsBuilderF 31 5 B b bs w' := by
  have key : ∀ p, Lib.BuilderAtF 31 5 B b p bs w → Lib.BuilderAtF 31 5 B b p bs w' := by
    rintro p ⟨h1, v, h2, h3, h4⟩
    refine ⟨h1, v, (hb.block b (Array.getElem?_eq_some_iff.1 h2).1).trans h2, h3.kept (grown_of_below hb) ?_, h4⟩
    cases v.ownBlock with
    | none => exact .inl rfl
    | some k => exact .inr (by simp)
  rcases h with h | h
  · exact .inl (key _ h)
  · exact .inr (key _ h)

theorem builder_block {B b : Nat} {bs : List Value} {w : World} (h : Lib.IsBuilderF 31 5 B b bs w) : ∃ cs fz, w.heap[b]? = some (.cells cs 31 fz) := by
  rcases h with ⟨_, v, h2, _⟩ | ⟨_, v, h2, _⟩
  · exact ⟨_, _, h2⟩
  · exact ⟨_, _, h2⟩

theorem itoa26 (n : Int) (hn : wfI n) (w : World) (h : Tab w) : Calls Tryd.prog 26 #[.int .i64 n] w fun e w' => ∃ sv : ByteArray, e = .returned (.string sv) ∧ Hid (sv.data.toList = Lib.itoa n) ∧ sv.size ≤ 21 ∧ Below w.heap.size w w' := by
  refine (Tryd.strconv_Itoa n hn.1 hn.2 w h).mono ?_
  rintro e w' ⟨rfl, k, os, rfl⟩
  exact ⟨_, rfl, rfl, by rw [← size_toList]; exact Lib.itoa_length_le n hn.1 hn.2, Lib.below_grow _ _ (Nat.le_refl _) _ _⟩

theorem cat_list (a b : ByteArray) : (a ++ b).data.toList = a.data.toList ++ b.data.toList := by simp [ByteArray.data_append]
theorem cat_size (a b : ByteArray) : (a ++ b).size = a.size + b.size := ByteArray.size_append

/-- The builder, holding l, in a world that the walk has come to. -/
structure Bld (w0 : World) (B b : Nat) (l : List UInt8) (w : World) : Prop where
  bld : Lib.IsBuilderF 31 5 B b (Lib.byteCells l) w
  below : Below B w0 w
  kept : Kept 0 w0 w

theorem Bld.size {w0 w : World} {B b : Nat} {l : List UInt8} (h : Bld w0 B b l w) (hB : B ≤ w0.heap.size) : B ≤ w.heap.size := by
  have := h.below.size
  omega

theorem Bld.step {w0 w w' : World} {B b : Nat} {l l' : List UInt8} (h : Bld w0 B b l w) (h' : Bld w B b l' w') : Bld w0 B b l' w' :=
  ⟨h'.bld, h.below.trans h'.below, h.kept.trans h'.kept⟩

theorem Bld.later {w0 w w' : World} {B b : Nat} {l : List UInt8} (h : Bld w0 B b l w) (hB : B ≤ w0.heap.size) (hb : Below w.heap.size w w') : Bld w0 B b l w' :=
  ⟨builder_below h.bld hb, h.below.trans (hb.mono (h.size hB)), h.kept.trans (Kept.of_below hb 0)⟩

theorem str6 (B b : Nat) (l : List UInt8) (s : ByteArray) (w : World) (h : Lib.IsBuilderF 31 5 B b (Lib.byteCells l) w) (hlen : l.length + s.size ≤ 140737488355328) (hBw : B ≤ w.heap.size) :
    Calls Tryd.prog 6 #[.pointer (some ⟨b, 0, none⟩), .string s] w fun e w' => e = .returned (.tuple #[.int .i64 s.size, .nilIface]) ∧ Bld w B b (l ++ s.data.toList) w' := by
  refine (string6 B b _ s w h (by rw [Lib.byteCells_length]; exact hlen) hBw).mono ?_
  rintro e w' ⟨rfl, h1, h2, h3⟩
  obtain ⟨cs, fz, hb⟩ := builder_block h
  refine ⟨rfl, .inr ?_, h2, Kept.of_others h3 hb⟩
  have : Lib.byteCells (l ++ s.data.toList) = Lib.byteCells l ++ Lib.strCells s := by simp [Lib.byteCells, Lib.strCells]
  rw [this]
  exact h1

theorem byt27 (B b : Nat) (l : List UInt8) (c : UInt8) (z : Int) (hz : z = c.toNat) (w : World) (h : Lib.IsBuilderF 31 5 B b (Lib.byteCells l) w) (hlen : l.length + 1 ≤ 140737488355328) (hBw : B ≤ w.heap.size) :
    Calls Tryd.prog 27 #[.pointer (some ⟨b, 0, none⟩), .int .u8 z] w fun e w' => e = .returned .nilIface ∧ Bld w B b (l ++ [c]) w' := by
  refine (byte27 B b _ z w h (by rw [Lib.byteCells_length]; exact hlen) hBw).mono ?_
  rintro e w' ⟨rfl, h1, h2, h3⟩
  obtain ⟨cs, fz, hb⟩ := builder_block h
  refine ⟨rfl, .inr ?_, h2, Kept.of_others h3 hb⟩
  have : Lib.byteCells (l ++ [c]) = Lib.byteCells l ++ [.int .u8 z] := by simp [Lib.byteCells, hz]
  rw [this]
  exact h1

def preX {α : Type} (f : α × BT α → List UInt8) (t : BT α) (k : Nat) : List UInt8 := (((toL t).take k).map fun x => f x ++ [44]).flatten
theorem preX_zero {α : Type} (f : α × BT α → List UInt8) (t : BT α) : preX f t 0 = [] := by simp [preX]
theorem preX_succ {α : Type} (f : α × BT α → List UInt8) {t : BT α} {k : Nat} {y : α × BT α} (h : (toL t)[k]? = some y) : preX f t (k + 1) = preX f t k ++ f y ++ [44] := by
  rw [preX, join_take_succ _ h, ← preX, List.append_assoc]
theorem preX_all {α : Type} (f : α × BT α → List UInt8) (t : BT α) {k : Nat} (hk : len t ≤ k) : preX f t k = ((toL t).map fun x => f x ++ [44]).flatten := by
  rw [preX, List.take_of_length_le (by rw [toL_length]; exact hk)]
theorem preX_le {α : Type} (f : α × BT α → List UInt8) {t : BT α} {k : Nat} {y : α × BT α} (h : (toL t)[k]? = some y) : (preX f t k).length + (f y).length + 1 ≤ ((toL t).map fun x => f x ++ [44]).flatten.length := by
  have e : ((toL t).map fun x => f x ++ [44]).flatten = preX f t (k + 1) ++ (((toL t).drop (k + 1)).map fun x => f x ++ [44]).flatten := by
    rw [preX, ← List.flatten_append, ← List.map_append, List.take_append_drop]
  rw [e, preX_succ f h]
  simp only [List.length_append, List.length_cons, List.length_nil]
  omega

set_option maxHeartbeats 1000000 in
set_option maxRecDepth 100000 in
theorem write28 : ∀ x : T1, ∀ (w : World) (L q B b : Nat) (l0 : List UInt8), One (HdTB w L) x (some (.pointer (some ⟨q, 0, none⟩))) → Lib.IsBuilderF 31 5 B b (Lib.byteCells l0) w →
    l0.length + (text x).length ≤ 4194304 → B ≤ w.heap.size → 3 ≤ B → Tab w →
    Calls Tryd.prog 28 #[.pointer (some ⟨q, 0, none⟩), .pointer (some ⟨b, 0, none⟩)] w fun e w' => e = .returned (.tuple #[]) ∧ Bld w B b (l0 ++ text x) w' := by
  apply ind_one
  rintro ⟨s, v⟩ l ih w L q B b l0 hone hbld hlen hB hB3 htab
  have Hone := hid hone
  obtain ⟨q', p, sl, cap, hq, hLq, hblk, hsym, hwf, hmax, rb, cur, hsl, hall⟩ := hone
  simp only [Option.some.injEq, Value.pointer.injEq, Addr.mk.injEq, and_true] at hq
  subst hq
  have c0 : w.cell? ⟨q, 0, none⟩ = some (.pointer p) := by rw [Lib.cell_of_heap hblk]; rfl
  have c1 : w.cell? ⟨q, 1, none⟩ = some (.int .i64 v) := by rw [Lib.cell_of_heap hblk]; rfl
  have c2 : w.cell? ⟨q, 2, none⟩ = some (.slice sl (len l) cap) := by rw [Lib.cell_of_heap hblk]; rfl
  have Hi := hid ih
  have hmx : len l ≤ maxLen := hmax
  unfold maxLen at hmx
  clear ih hmax
  go_enter Tryd.func28, Tryd.ntmps28
  rcases hsym with ⟨rfl, hs⟩ | ⟨nm, k, hs, rfl, hk, hsy, hnm⟩
  · obtain rfl : s = none := hs
    have hl0 : l0.length ≤ 4194304 := by omega
    have Hlen := hid hlen
    clear hlen
    have hw : wfI v := hwf
    go_wp2_with (first
      | (go_at_call 26; refine (itoa26 v hw _ htab).mono ?_; rintro e w1 ⟨sv, rfl, Hsv, hsv, hb1⟩)
      | (go_at_call 6; refine (str6 B b l0 _ _ (builder_below hbld hb1) (by rw [cat_size]; show l0.length + (1 + _) ≤ _; omega) (by have := hb1.size; omega)).mono ?_; rintro e w2 ⟨rfl, h2⟩))
    refine bodyPost_ret (results_none (by kernel_rfl) _ _ _) rfl ?_
    refine ⟨rfl, ?_⟩
    have h0 : Bld w B b l0 w := ⟨hbld, Below.refl _ _, Kept.refl _ _⟩
    have h3 := (h0.later hB hb1).step h2
    rw [cat_list, Hsv.out] at h3
    exact h3
  · obtain rfl : s = some nm := hs
    have hl0 : l0.length + nm.size + 1 + (textT l).length ≤ 4194304 := by
      have := size_toList nm
      simp only [text, text1, List.length_append, List.length_cons, List.length_nil] at hlen
      omega
    have Hlen := hid hl0
    have hnm4 : nm.size ≤ 4194304 := by omega
    have hl04 : l0.length + (nm.size + 1) ≤ 4194304 := by omega
    have s0 : w.cell? ⟨k, 0, none⟩ = some (.string nm) := by rw [Lib.cell_of_heap hsy]; rfl
    have Hblk := hid hblk
    clear hlen hl0 hsy
    go_wp2_with (go_at_call 6; refine (str6 B b l0 _ _ hbld (by rw [cat_size]; show l0.length + (nm.size + 1) ≤ _; omega) hB).mono ?_; rintro e w2 ⟨rfl, h2⟩
                 have hblk2 := h2.kept _ _ _ (Nat.zero_le _) Hblk.out (.inr (.inl rfl))
                 have e2 : w2.cell? ⟨q, 2, none⟩ = some (.slice sl (len l) cap) := by rw [Lib.cell_of_heap hblk2]; rfl
                 clear hblk2)
    have H2 := hid h2
    rw [cat_list] at h2
    go_loopw [34] (fun v ws => ∃ k : Nat, k ≤ len l ∧ v = .int .i64 k ∧ Hid (Bld w B b (l0 ++ (nm.data.toList ++ [40]) ++ preX text l k) ws)) (fun v _ => len l - (intOf v).toNat)
    case atStart => exact ⟨0, Nat.zero_le _, rfl, by rw [preX_zero, List.append_nil]; exact h2⟩
    case round =>
      obtain ⟨j, hj, rfl, Hb⟩ := hrel
      by_cases hlt : j < len l
      · obtain ⟨y, hy⟩ := toL_at hlt
        obtain ⟨rfl, hLb, hrow⟩ : sl = some ⟨rb, 0, none⟩ ∧ L ≤ rb ∧ w.heap[rb]? = some (.cells cur 58 (0, 0)) := by
          rcases hsl with h | h
          · have h' : len l = 0 := h
            omega
          · exact h
        have hrow' := Hb.out.kept _ _ _ (Nat.zero_le _) hrow (.inr (.inr (.inl rfl)))
        have hyo := hall.get hy
        obtain ⟨qy, py, sly, capy, hqy, _⟩ := hyo
        have hcell : wr.cell? ⟨rb, j, none⟩ = some (.pointer (some ⟨qy, 0, none⟩)) := by rw [Lib.cell_of_heap hrow']; exact hqy
        have Hyo := hid (show One (HdTB wr L) y (some (.pointer (some ⟨qy, 0, none⟩))) from oneTB_kept (Hb.out.kept.mono (Nat.zero_le _)) (Nat.le_refl _) (hqy ▸ hall.get hy))
        have hle := preX_le text hy
        rw [← textT_join] at hle
        have hsz : (l0 ++ (nm.data.toList ++ [40]) ++ preX text l j).length + (text y).length + 1 ≤ 4194304 := by
          have h1 := Hlen.out
          have h2 := size_toList nm
          simp only [List.length_append, List.length_cons, List.length_nil]
          omega
        have Hsz := hid hsz
        have Hy := hid hy
        have hBr := Hb.out.size hB
        have htr := htab.below Hb.out.below hB3
        clear hle hsz hy hrow hrow' hqy
        go_wp2_with (first
          | (go_at_call 28; refine (Hi.out j y Hy.out _ L qy B b _ Hyo.out Hb.out.bld (by have := Hsz.out; omega) hBr hB3 htr).mono ?_; rintro e w5 ⟨rfl, h5⟩; have H5 := hid h5; have hB5 := h5.size hBr; clear h5)
          | (go_at_call 27; refine (byt27 B b _ 44 44 rfl _ H5.out.bld (by have := Hsz.out; simp only [List.length_append] at this ⊢; omega) hB5).mono ?_; rintro e w6 ⟨rfl, h6⟩; have H6 := hid h6; clear h6))
        go_roundw
        case rel =>
          refine ⟨j + 1, by omega, by go_num, ?_⟩
          have h7 := (Hb.out.step H5.out).step H6.out
          rw [preX_succ text Hy.out]
          show Bld _ _ _ _ _
          simpa only [List.append_assoc] using h7
        case measure => simp [intOf]; omega
      · have hBr := Hb.out.size hB
        have hsz : (l0 ++ (nm.data.toList ++ [40]) ++ preX text l j).length + 1 ≤ 140737488355328 := by
          have h1 := Hlen.out
          have h2 := size_toList nm
          rw [preX_all text l (by omega), ← textT_join]
          simp only [List.length_append, List.length_cons, List.length_nil]
          omega
        have hkl : len l ≤ j := by omega
        have Hsz := hid hsz
        clear hsz
        go_wp2_with (go_at_call 27; refine (byt27 B b _ 41 41 rfl _ Hb.out.bld Hsz.out hBr).mono ?_; rintro e w6 ⟨rfl, h6⟩; have H6 := hid h6; clear h6)
        go_end0
        refine ⟨rfl, ?_⟩
        have h7 := Hb.out.step H6.out
        rw [preX_all text l hkl, ← textT_join] at h7
        simpa only [text, text1, List.append_assoc] using h7

end Go.Proofs.Qxb6601988aDoor
