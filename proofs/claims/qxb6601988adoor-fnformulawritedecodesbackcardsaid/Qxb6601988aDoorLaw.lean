/-
  FnFormulaWriteDecodesBack, walked.
-/
import Derived.Test.Qxb6601988aDoorMatchF
import Derived.Test.Qxb6601988aDoorReadable
namespace Go.Proofs.Qxb6601988aDoor
open Go.RowKit Go.Sort
open Go.Deep (BT)

theorem write7 (x : F1) (w : World) (L q B b : Nat) (l0 : List UInt8) (h : One (HdFB w L) x (some (.pointer (some ⟨q, 0, none⟩)))) (hb : Lib.IsBuilderF 31 5 B b (Lib.byteCells l0) w)
    (hl : l0.length + (ftext x).length ≤ 4194304) (hB : B ≤ w.heap.size) (hB3 : 3 ≤ B) (ht : Tab w) :
    Calls Tryd.prog 7 #[.pointer (some ⟨q, 0, none⟩), .pointer (some ⟨b, 0, none⟩)] w fun e w' => e = .returned (.tuple #[]) ∧ Bld w B b (l0 ++ ftext x) w' := by
  go_enter Tryd.func7, Tryd.ntmps7
  go_wp2_with (go_at_call 15; refine (write15 x w L q B b l0 h hb hl hB hB3 ht).mono ?_; rintro e w' ⟨rfl, h'⟩)
  go_end0
  exact ⟨rfl, h'⟩

theorem box5 {w : World} {k : Nat} {a b c d e : Value} {ty : TypeId} (h : w.heap[k]? = some (.cells #[a, b, c, d, e] ty (0, 0))) :
    w.cell? ⟨k, 0, none⟩ = some a ∧ w.cell? ⟨k, 1, none⟩ = some b ∧ w.cell? ⟨k, 2, none⟩ = some c ∧ w.cell? ⟨k, 3, none⟩ = some d ∧ w.cell? ⟨k, 4, none⟩ = some e :=
  ⟨by rw [Lib.cell_of_heap h]; rfl, by rw [Lib.cell_of_heap h]; rfl, by rw [Lib.cell_of_heap h]; rfl, by rw [Lib.cell_of_heap h]; rfl, by rw [Lib.cell_of_heap h]; rfl⟩

theorem newBuilder (w : World) : Lib.IsBuilderF 31 5 w.heap.size w.heap.size (Lib.byteCells []) (w.alloc (.cells #[.pointer none, .slice none 0 0] 31)) :=
  .inl ⟨Nat.le_refl _, .slice none 0 0, heap_alloc_new _ _, World.ownsRowF_nil _ _ _ _, fun h => by cases h⟩

set_option maxHeartbeats 2000000 in
set_option maxRecDepth 100000 in
theorem law4 (x : F1) (w : World) (p sl : Option Addr) (m cap : Nat) (xl : Option Addr) (n xcap : Nat) (pre : ByteArray) (hin : InF w x p sl m cap xl n xcap) (hpre : pre.size ≤ 9223372036854775807) (htab : Tab w) (hw3 : 3 ≤ w.heap.size) :
    Calls Tryd.prog 4 #[.agg #[.int .i64 x.1.1, .pointer p, .slice sl m cap, .slice xl n xcap, .bool x.1.2.2.1], .string pre] w fun e w' => e = .returned (.bool true) ∧ Below w.heap.size w w' := by
  have Hwf := hid (hin.wfF x)
  have Hin0 := hid hin
  obtain ⟨⟨op, s, sh, args⟩, l⟩ := x
  have hb1 := box_below w (.cells #[.int .i64 op, .pointer p, .slice sl m cap, .slice xl n xcap, .bool sh] 26)
  have Hin1 := hid (hin.below hb1)
  have Hbox1 := hid (heap_alloc_new w (.cells #[.int .i64 op, .pointer p, .slice sl m cap, .slice xl n xcap, .bool sh] 26))
  have hs1 : (w.alloc (.cells #[.int .i64 op, .pointer p, .slice sl m cap, .slice xl n xcap, .bool sh] 26)).heap.size = w.heap.size + 1 := by simp
  clear hin
  go_enter Tryd.func4, Tryd.ntmps4
  by_cases hp : pre.size ≤ 1048576
  · have hbud : 0 ≤ (1048576 : Int) - (pre.size : Int) := by omega
    go_wp2_with (first
      | (go_at_call 5; refine (budget5 ((op, s, sh, args), l) _ _ _ _ _ _ _ _ _ Hin1.out hbud (by omega)).mono ?_; rintro e w2 ⟨⟨r, rfl, hr⟩, hb2⟩
         have hs2 := hb2.size
         rw [hs1] at hs2
         have Hbox2 := hid ((hb2.block w.heap.size (by rw [hs1]; omega)).trans Hbox1.out)
         obtain ⟨a0, a1, a2, a3, a4⟩ := box5 Hbox2.out
         have hb02 := hb1.trans (hb2.mono (by omega))
         clear hb2)
      | (go_at_call 10; refine (names10 ((op, s, sh, args), l) _ _ _ _ _ _ _ _ (Hin0.out.below hb02)).mono ?_; rintro e w3 ⟨⟨rb, rfl, hok⟩, hb3⟩
         have hs3 := hb3.size
         have Hbox3 := hid ((hb3.block w.heap.size (by omega)).trans Hbox2.out)
         clear a0 a1 a2 a3 a4
         have hb03 := hb02.trans (hb3.mono (by omega))
         have Hok := hid hok
         clear hb3 hok
         cases rb)
      | fail)
    · go_ret
      exact ⟨rfl, hb02⟩
    · go_ret
      exact ⟨rfl, hb03⟩
    · have hcost : costF1 ((op, s, sh, args), l) + pre.size ≤ 1048576 := by
        rcases hr with h | h
        · omega
        · omega
      have htl : (ftext ((op, s, sh, args), l)).length ≤ costF1 ((op, s, sh, args), l) := ftext_le _ Hwf.out
      have hs03 := hb03.size
      have hB3 : 3 ≤ w3.heap.size := by omega
      have Hk := hid (And.intro hcost htl)
      have H4 := hid (newBuilder w3)
      clear hr hcost htl Hin1 Hbox1 Hbox2 hb02 hb1
      have hbA : Below w3.heap.size w3 (w3.alloc (.cells #[.pointer none, .slice none 0 0] 31)) := box_below _ _
      have hsA : (w3.alloc (.cells #[.pointer none, .slice none 0 0] 31)).heap.size = w3.heap.size + 1 := by simp
      generalize (w3.alloc (.cells #[.pointer none, .slice none 0 0] 31)) = w4 at *
      have HsA := hid hsA
      have hsA' : w3.heap.size < w4.heap.size := by omega
      clear hsA
      refine (str6 w3.heap.size w3.heap.size [] pre _ H4.out (by simp; omega) (by omega)).mono ?_
      rintro e w5 ⟨rfl, h5⟩
      simp only [List.nil_append] at h5
      have hb35 : Below w3.heap.size w3 w5 := hbA.trans h5.below
      have hs5 := h5.below.size
      have hb05 := hb03.trans (hb35.mono (by omega))
      have Hbox5 := hid ((hb35.block w.heap.size (by omega)).trans Hbox3.out)
      obtain ⟨a0, a1, a2, a3, a4⟩ := box5 Hbox5.out
      have H5 := hid h5
      clear h5
      go_wp2_with (first
        | (go_at_call 8; refine (build8 ((op, s, sh, args), l) _ _ _ _ _ _ _ _ (Hin0.out.below hb05) (by have := Hk.out; omega)).mono ?_; rintro e w6 ⟨⟨q, rfl, hq⟩, hb6⟩
           have hs6 := hb6.size
           have Hq := hid hq
           clear a0 a1 a2 a3 a4 hq)
        | (go_at_call 7; refine (write7 ((op, s, sh, args), l) _ w5.heap.size q w3.heap.size w3.heap.size _ Hq.out (builder_below H5.out.bld hb6) (by have := Hk.out; rw [size_toList]; omega) (by omega) hB3 (htab.below (hb05.trans (hb6.mono (by omega))) hw3)).mono ?_; rintro e w7 ⟨rfl, h7⟩; have H7 := hid h7; clear h7)
        | (go_at_call 9; refine (Tryd.Builder_String_any_k w3.heap.size w3.heap.size _ _ H7.out.bld (H7.out.size (by omega))).mono ?_; rintro e w8 ⟨rfl, _, hb8, _⟩
           have hb08 : Below w.heap.size w w8 := (hb05.trans (hb6.mono (by omega))).trans ((H7.out.below.trans hb8).mono (by omega))
           have Hbox8 := hid ((hb8.block w.heap.size (by omega)).trans ((H7.out.below.block w.heap.size (by omega)).trans ((hb6.block w.heap.size (by omega)).trans Hbox5.out)))
           obtain ⟨out, hout⟩ : ∃ out : ByteArray, out = ⟨(pre.data.toList ++ ftext ((op, s, sh, args), l)).toArray⟩ := ⟨_, rfl⟩
           rw [← hout]
           have hol : out.data.toList = pre.data.toList ++ ftext ((op, s, sh, args), l) := (by rw [hout])
           have hos : out.size = pre.size + (ftext ((op, s, sh, args), l)).length := (by rw [← size_toList, hol, List.length_append, size_toList])
           have hat : At out 0 (pre.data.toList ++ ftext ((op, s, sh, args), l)) := (by rw [← hol]; exact At.whole out)
           have hex : out.extract 0 pre.size = pre := (by have h := extract_at hat.left; rwa [Nat.zero_add] at h)
           have hat2 : At out pre.size (ftext ((op, s, sh, args), l)) := (by have h := hat.right; rwa [Nat.zero_add, size_toList] at h)
           have hle : pre.size ≤ out.size := (by omega)
           have ho4 : out.size ≤ 4194304 := (by have := Hk.out; omega)
           have Hos := hid hos
           have Hat2 := hid hat2
           have hs8 := hb08.size
           have hbs8 := hb8.size
           have h78 := H7.out.below.size
           clear hout hol hos hat hat2)
        | (go_at_call 11; refine (parse11 ((op, s, sh, args), l) _ out pre.size Hat2.out (Hok.out (by trivial)) (by exact ⟨Hwf.out.1, Hwf.out.2.1, Hwf.out.2.2.1⟩) ho4).mono ?_; rintro e w9 ⟨⟨dop, dn, dl, dm, dcap, dx, dxn, dxcap, rfl, hE⟩, hb9⟩
           rw [← Hos.out]
           have hs9 := hb9.size
           have HE := hid hE
           have hb09 := hb08.trans (hb9.mono (by omega))
           have Hbox9 := hid ((hb9.block w.heap.size (by omega)).trans Hbox8.out)
           have Hbox10 := hid (fun o => (Below.heap_alloc w9 o w.heap.size (by omega)).trans Hbox9.out)
           have X0 := fun o => (box5 (Hbox10.out o)).1
           have X1 := fun o => (box5 (Hbox10.out o)).2.1
           have X2 := fun o => (box5 (Hbox10.out o)).2.2.1
           have X3 := fun o => (box5 (Hbox10.out o)).2.2.2.1
           have X4 := fun o => (box5 (Hbox10.out o)).2.2.2.2
           clear hE)
        | (go_at_call 12; refine (match12 ((op, s, sh, args), l) _ _ _ _ _ _ _ _ _ _ _ _ _ _ _ _ (Hin0.out.below (hb09.trans ((box_below w9 _).mono (by omega)))) (oneE_below (box_below w9 _) (oneE_keep (Nat.le_refl _) (fun b _ _ => ⟨trivial, rfl⟩) (keeps_refl _) HE.out))).mono ?_; rintro e w11 ⟨rfl, hb11⟩))
      go_ret
      have hz9 := box_below w9 (.cells #[.int .i64 dop, .string dn, .slice dl dm dcap, .slice dx dxn dxcap] 45)
      exact ⟨rfl, hb09.trans ((hz9.trans (hb11.mono hz9.size)).mono (by omega))⟩
  · go_wp2_with fail
    go_ret
    exact ⟨rfl, hb1⟩

end Go.Proofs.Qxb6601988aDoor
