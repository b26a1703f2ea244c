/-
  zzBuildTermHB1.
-/
import Derived.Test.Qxb6601988aDoorBuilt
namespace Go.Proofs.Qxb6601988aDoor
open Go.RowKit
open Go.Deep (BT)

theorem infoP58 : (Tryd.prog.info? 58).map (fun i => (i.zero, i.size, i.bytes)) = some (some (.pointer none), 1, 8) := by kernel_rfl

theorem below2 (w : World) (o o' : Obj) : Below w.heap.size w ((w.alloc o).alloc o') := (box_below w o).alloc (by simp) o'

set_option maxHeartbeats 1000000 in
set_option maxRecDepth 100000 in
theorem build17 : ∀ x : T1, ∀ (w : World) (p sl : Option Addr) (n cap : Nat), InT w x p sl n cap → cost1 x ≤ 1048576 →
    Calls Tryd.prog 17 #[.agg #[.pointer p, .int .i64 x.1.2, .slice sl n cap]] w fun e w' => (∃ q, e = .returned (.pointer (some ⟨q, 0, none⟩)) ∧ One (HdTB w' w.heap.size) x (some (.pointer (some ⟨q, 0, none⟩)))) ∧ Below w.heap.size w w' := by
  apply ind_one
  rintro ⟨s, v⟩ l ih w p sl n cap hin hcost
  have hsym := hin.sym
  have hwf : wfI v := hin.wf
  obtain rfl := hin.len
  have hlc : len l ≤ 1048576 := by
    have h1 := len_le_cost l
    simp only [cost1] at hcost
    omega
  have hmx : len l ≤ maxLen := by unfold maxLen; omega
  have hsub := fun (k : Nat) (y : T1) (hy : (toL l)[k]? = some y) => (show cost1 y ≤ 1048576 by
    have h1 := cost_mem hy
    simp only [cost1] at hcost ⊢
    simp only [cost1] at h1
    omega)
  have Hi := hid ih
  have Hsub := hid hsub
  clear ih hsub
  go_enter Tryd.func17, Tryd.ntmps17
  rcases hsym with ⟨rfl, hs⟩ | ⟨nm, pb, po, hs, rfl, hc, hnm⟩
  · obtain rfl : s = none := hs
    have hb1 := box_below w (.cells #[.pointer none, .int .i64 v, .slice sl (len l) cap] 53)
    have c0 : (w.alloc (.cells #[.pointer none, .int .i64 v, .slice sl (len l) cap] 53)).cell? ⟨w.heap.size, 0, none⟩ = some (.pointer none) := by rw [World.cell?_alloc_at _ _ _ _ rfl]; rfl
    have c1 : (w.alloc (.cells #[.pointer none, .int .i64 v, .slice sl (len l) cap] 53)).cell? ⟨w.heap.size, 1, none⟩ = some (.int .i64 v) := by rw [World.cell?_alloc_at _ _ _ _ rfl]; rfl
    have c2 : (w.alloc (.cells #[.pointer none, .int .i64 v, .slice sl (len l) cap] 53)).cell? ⟨w.heap.size, 2, none⟩ = some (.slice sl (len l) cap) := by rw [World.cell?_alloc_at _ _ _ _ rfl]; rfl
    have Hin := hid (hin.below hb1)
    have Hsb := hid (show SymB (w.alloc (.cells #[.pointer none, .int .i64 v, .slice sl (len l) cap] 53)) w.heap.size none _ from .inl ⟨rfl, rfl⟩)
    have hs0 : (w.alloc (.cells #[.pointer none, .int .i64 v, .slice sl (len l) cap] 53)).heap.size = (w.heap.size + 1) := by simp
    have hs1 : w.heap.size < (w.alloc (.cells #[.pointer none, .int .i64 v, .slice sl (len l) cap] 53)).heap.size := by rw [hs0]; omega
    have Hwf := hid hwf
    rcases sl with _ | a
    · have hl0 : len l = 0 := by
        obtain ⟨_, _, h | h, _⟩ := hin.sub
        · exact h
        · cases h
      have hqn := fun w => run_neq_slice_nil_any (P := Tryd.prog) w 23 53 none 0 cap 0 0 Tryd.underlying23
      simp only [hl0] at hb1 c1 c2 Hsb hs0 hs1
      clear hin hwf
      go_wp2_with (first | (go_at_call 16; fail) | (go_at_call 29; refine (term29 _ none v 0 0 _).mono ?_; rintro e w5 ⟨rfl, rfl⟩))
      generalize (w.alloc (.cells #[.pointer none, .int .i64 v, .slice none 0 cap] 53)) = w1 at *
      generalize (w.heap.size + 1) = g0 at *
      subst hs0
      have hsle : w.heap.size ≤ w1.heap.size := by omega
      go_ret
      have hk := (box_below w1 (.cells #[.pointer none, .int .i64 v, .slice none 0 0] 88))
      refine ⟨⟨_, rfl, ⟨_, none, none, 0, rfl, hsle, ?_, Hsb.out.kept (Kept.of_below hk _), Hwf.out, hmx, 0, #[], .inl hl0, ?_⟩⟩, hb1.trans (hk.mono hsle)⟩
      · rw [heap_alloc_new]
        simp only [hl0]
      · cases l with
        | nil => trivial
        | node _ _ _ _ _ => simp [len] at hl0
    · have hqn := fun w => run_neq_slice_nil_any (P := Tryd.prog) w 23 53 (some a) (len l) cap 0 0 Tryd.underlying23
      obtain ⟨i0, hi, hz0, hz1, hz2⟩ := info_parts infoP58
      clear hin hwf
      go_wp2_with (first | (go_at_call 16; fail) | (at_make; refine wpList_make_ptrs _ rfl _ _ 57 rfl i0 (.pointer none) Tryd.underlying57 hi hz0 hz1 rfl _ _ _ _ (len l) rfl rfl rfl rfl (by rw [hz2]; omega) (by unfold maxLen; omega) ?_; intro cur hcur))
      generalize (w.alloc (.cells #[.pointer none, .int .i64 v, .slice (some a) (len l) cap] 53)) = w1 at *
      generalize (w.heap.size + 1) = g0 at *
      subst hs0
      go_loopw [5] (fun v ws => ∃ (k : Nat) (cur : Array Value), k ≤ len l ∧ v = .int .i64 k ∧ ws.heap[w1.heap.size]? = some (.cells cur 58 (0, 0)) ∧ cur.size = len l ∧ Hid (upB (HdTB ws (w1.heap.size + 1)) l k cur) ∧ Below w1.heap.size w1 ws) (fun v _ => len l - (intOf v).toNat)
      case atStart => exact ⟨0, cur, Nat.zero_le _, rfl, heap_alloc_new _ _, hcur, upB_zero _ _ _, box_below _ _⟩
      case round =>
        clear hcur
        obtain ⟨k, cur', hk, rfl, hrow, hcur', Hup, hb⟩ := hrel
        have hbs := hb.size
        have c1r := (hb.cell (p := ⟨w.heap.size, 1, none⟩) hs1).trans c1
        have c2r := (hb.cell (p := ⟨w.heap.size, 2, none⟩) hs1).trans c2
        have hgr : w1.heap.size < wr.heap.size := (Array.getElem?_eq_some_iff.1 hrow).1
        by_cases hlt : k < len l
        · obtain ⟨y, hy⟩ := toL_at hlt
          obtain ⟨b, o, p', sl', n', cap', rfl_, d0, d1, d2, hiny⟩ := (Hin.out.below hb).at hy
          obtain rfl := Option.some.inj rfl_
          have Hy := hid hy
          have Hiny := hid hiny
          clear hy hiny rfl_
          have Hrow := hid hrow
          clear hrow
          go_wp2_with (go_at_call 17; refine (Hi.out k y Hy.out _ _ _ _ _ Hiny.out (Hsub.out k y Hy.out)).mono ?_; rintro e w5 ⟨⟨q, rfl, hq⟩, hb5⟩
                       have hrow5 : w5.heap[w1.heap.size]? = some (.cells cur' 58 (0, 0)) := (hb5.block _ hgr).trans Hrow.out
                       have hcell : w5.cell? ⟨w1.heap.size, k, none⟩ = some (cur'[k]'(by omega)) := by simp [World.cell?, hrow5, hcur', hlt]
                       have hfz : w5.frozen? ⟨w1.heap.size, k, none⟩ = false := by simp [World.frozen?, hrow5]
                       have Hq := hid hq
                       clear hq)
          go_roundw
          case rel =>
            refine ⟨k + 1, _, by omega, by go_num, heap_setCell_same w5 w1.heap.size k cur' 58 _ hrow5, by simpa using hcur', ?_, ?_⟩
            · refine upB_succ Hup.out (fun x g h => ?_) Hy.out (by omega) ?_
              · exact oneTB_kept ((Kept.of_below hb5 _).trans (Kept.store ⟨w1.heap.size, k, none⟩ _ (by show w1.heap.size < _; omega))) (Nat.le_refl _) h
              · exact oneTB_kept (Kept.store ⟨w1.heap.size, k, none⟩ _ hgr) (by omega) Hq.out
            · exact (hb.trans (hb5.mono hbs)).setCell (p := ⟨w1.heap.size, k, none⟩) (Nat.le_refl _) _
          case measure => simp [intOf]; omega
        · have HA := hid (upB_all Hup.out (show len l ≤ k by omega))
          have hb1s := hb1.size
          go_wp2_with (go_at_call 29; refine (term29 _ _ v _ _ _).mono ?_; rintro e w5 ⟨rfl, rfl⟩)
          go_ret
          have hk2 := box_below wr (.cells #[.pointer none, .int .i64 v, .slice (some ⟨w1.heap.size, 0, none⟩) (len l) (len l)] 88)
          have hk3 := Kept.of_below hk2 w.heap.size
          refine ⟨⟨_, rfl, ⟨_, none, some ⟨w1.heap.size, 0, none⟩, len l, rfl, by omega, heap_alloc_new _ _, (Hsb.out.kept (Kept.of_below hb _)).kept hk3, Hwf.out, hmx, w1.heap.size, cur', .inr ⟨rfl, by omega, hk3 _ _ _ (by omega) hrow (.inr (.inr (.inl rfl)))⟩, allTB_kept (Kept.of_below hk2 _) (by omega) HA.out⟩⟩, hb1.trans ((hb.trans (hk2.mono hbs)).mono (by omega))⟩
  · obtain rfl : s = some nm := hs
    have hpb : pb < w.heap.size := World.block_lt_of_cell? _ _ hc
    have hb0 := box_below w (.cells #[.pointer (some ⟨pb, po, none⟩), .int .i64 v, .slice sl (len l) cap] 53)
    have hc' := (hb0.cell (p := ⟨pb, po, none⟩) hpb).trans hc
    have c0 : (w.alloc (.cells #[.pointer (some ⟨pb, po, none⟩), .int .i64 v, .slice sl (len l) cap] 53)).cell? ⟨w.heap.size, 0, none⟩ = some (.pointer (some ⟨pb, po, none⟩)) := by rw [World.cell?_alloc_at _ _ _ _ rfl]; rfl
    have hb1 := below2 w (.cells #[.pointer (some ⟨pb, po, none⟩), .int .i64 v, .slice sl (len l) cap] 53) (.cells #[.string nm, .slice none 0 0, .pointer none] 83)
    have c1 : ((w.alloc (.cells #[.pointer (some ⟨pb, po, none⟩), .int .i64 v, .slice sl (len l) cap] 53)).alloc (.cells #[.string nm, .slice none 0 0, .pointer none] 83)).cell? ⟨w.heap.size, 1, none⟩ = some (.int .i64 v) := by rw [World.cell?_alloc_past _ _ _ (by simp), World.cell?_alloc_at _ _ _ _ rfl]; rfl
    have c2 : ((w.alloc (.cells #[.pointer (some ⟨pb, po, none⟩), .int .i64 v, .slice sl (len l) cap] 53)).alloc (.cells #[.string nm, .slice none 0 0, .pointer none] 83)).cell? ⟨w.heap.size, 2, none⟩ = some (.slice sl (len l) cap) := by rw [World.cell?_alloc_past _ _ _ (by simp), World.cell?_alloc_at _ _ _ _ rfl]; rfl
    have Hin := hid (hin.below hb1)
    have Hsb := hid (show SymB ((w.alloc (.cells #[.pointer (some ⟨pb, po, none⟩), .int .i64 v, .slice sl (len l) cap] 53)).alloc (.cells #[.string nm, .slice none 0 0, .pointer none] 83)) w.heap.size (some ⟨w.heap.size + 1, 0, none⟩) _ from .inr ⟨nm, _, rfl, rfl, by omega, by rw [show w.heap.size + 1 = (w.alloc (.cells #[.pointer (some ⟨pb, po, none⟩), .int .i64 v, .slice sl (len l) cap] 53)).heap.size by simp]; exact heap_alloc_new _ _, hnm⟩)
    have hs0 : ((w.alloc (.cells #[.pointer (some ⟨pb, po, none⟩), .int .i64 v, .slice sl (len l) cap] 53)).alloc (.cells #[.string nm, .slice none 0 0, .pointer none] 83)).heap.size = (w.heap.size + 1 + 1) := by simp
    have hs1 : w.heap.size < ((w.alloc (.cells #[.pointer (some ⟨pb, po, none⟩), .int .i64 v, .slice sl (len l) cap] 53)).alloc (.cells #[.string nm, .slice none 0 0, .pointer none] 83)).heap.size := by rw [hs0]; omega
    have Hwf := hid hwf
    rcases sl with _ | a
    · have hl0 : len l = 0 := by
        obtain ⟨_, _, h | h, _⟩ := hin.sub
        · exact h
        · cases h
      have hqn := fun w => run_neq_slice_nil_any (P := Tryd.prog) w 23 53 none 0 cap 0 0 Tryd.underlying23
      simp only [hl0] at hb1 c1 c2 Hsb hs0 hs1
      clear hin hwf
      go_wp2_with (first | (go_at_call 16; refine (sym16 nm _).mono ?_; rintro e w5 ⟨rfl, rfl⟩) | (go_at_call 29; refine (term29 _ none v 0 0 _).mono ?_; rintro e w5 ⟨rfl, rfl⟩))
      generalize ((w.alloc (.cells #[.pointer (some ⟨pb, po, none⟩), .int .i64 v, .slice none 0 cap] 53)).alloc (.cells #[.string nm, .slice none 0 0, .pointer none] 83)) = w1 at *
      generalize (w.heap.size + 1 + 1) = g0 at *
      subst hs0
      have hsle : w.heap.size ≤ w1.heap.size := by omega
      go_ret
      have hk := (box_below w1 (.cells #[.pointer (some ⟨w.heap.size + 1, 0, none⟩), .int .i64 v, .slice none 0 0] 88))
      refine ⟨⟨_, rfl, ⟨_, (some ⟨w.heap.size + 1, 0, none⟩), none, 0, rfl, hsle, ?_, Hsb.out.kept (Kept.of_below hk _), Hwf.out, hmx, 0, #[], .inl hl0, ?_⟩⟩, hb1.trans (hk.mono hsle)⟩
      · rw [heap_alloc_new]
        simp only [hl0]
      · cases l with
        | nil => trivial
        | node _ _ _ _ _ => simp [len] at hl0
    · have hqn := fun w => run_neq_slice_nil_any (P := Tryd.prog) w 23 53 (some a) (len l) cap 0 0 Tryd.underlying23
      obtain ⟨i0, hi, hz0, hz1, hz2⟩ := info_parts infoP58
      clear hin hwf
      go_wp2_with (first | (go_at_call 16; refine (sym16 nm _).mono ?_; rintro e w5 ⟨rfl, rfl⟩) | (at_make; refine wpList_make_ptrs _ rfl _ _ 57 rfl i0 (.pointer none) Tryd.underlying57 hi hz0 hz1 rfl _ _ _ _ (len l) rfl rfl rfl rfl (by rw [hz2]; omega) (by unfold maxLen; omega) ?_; intro cur hcur))
      generalize ((w.alloc (.cells #[.pointer (some ⟨pb, po, none⟩), .int .i64 v, .slice (some a) (len l) cap] 53)).alloc (.cells #[.string nm, .slice none 0 0, .pointer none] 83)) = w1 at *
      generalize (w.heap.size + 1 + 1) = g0 at *
      subst hs0
      go_loopw [5] (fun v ws => ∃ (k : Nat) (cur : Array Value), k ≤ len l ∧ v = .int .i64 k ∧ ws.heap[w1.heap.size]? = some (.cells cur 58 (0, 0)) ∧ cur.size = len l ∧ Hid (upB (HdTB ws (w1.heap.size + 1)) l k cur) ∧ Below w1.heap.size w1 ws) (fun v _ => len l - (intOf v).toNat)
      case atStart => exact ⟨0, cur, Nat.zero_le _, rfl, heap_alloc_new _ _, hcur, upB_zero _ _ _, box_below _ _⟩
      case round =>
        clear hcur
        obtain ⟨k, cur', hk, rfl, hrow, hcur', Hup, hb⟩ := hrel
        have hbs := hb.size
        have c1r := (hb.cell (p := ⟨w.heap.size, 1, none⟩) hs1).trans c1
        have c2r := (hb.cell (p := ⟨w.heap.size, 2, none⟩) hs1).trans c2
        have hgr : w1.heap.size < wr.heap.size := (Array.getElem?_eq_some_iff.1 hrow).1
        by_cases hlt : k < len l
        · obtain ⟨y, hy⟩ := toL_at hlt
          obtain ⟨b, o, p', sl', n', cap', rfl_, d0, d1, d2, hiny⟩ := (Hin.out.below hb).at hy
          obtain rfl := Option.some.inj rfl_
          have Hy := hid hy
          have Hiny := hid hiny
          clear hy hiny rfl_
          have Hrow := hid hrow
          clear hrow
          go_wp2_with (go_at_call 17; refine (Hi.out k y Hy.out _ _ _ _ _ Hiny.out (Hsub.out k y Hy.out)).mono ?_; rintro e w5 ⟨⟨q, rfl, hq⟩, hb5⟩
                       have hrow5 : w5.heap[w1.heap.size]? = some (.cells cur' 58 (0, 0)) := (hb5.block _ hgr).trans Hrow.out
                       have hcell : w5.cell? ⟨w1.heap.size, k, none⟩ = some (cur'[k]'(by omega)) := by simp [World.cell?, hrow5, hcur', hlt]
                       have hfz : w5.frozen? ⟨w1.heap.size, k, none⟩ = false := by simp [World.frozen?, hrow5]
                       have Hq := hid hq
                       clear hq)
          go_roundw
          case rel =>
            refine ⟨k + 1, _, by omega, by go_num, heap_setCell_same w5 w1.heap.size k cur' 58 _ hrow5, by simpa using hcur', ?_, ?_⟩
            · refine upB_succ Hup.out (fun x g h => ?_) Hy.out (by omega) ?_
              · exact oneTB_kept ((Kept.of_below hb5 _).trans (Kept.store ⟨w1.heap.size, k, none⟩ _ (by show w1.heap.size < _; omega))) (Nat.le_refl _) h
              · exact oneTB_kept (Kept.store ⟨w1.heap.size, k, none⟩ _ hgr) (by omega) Hq.out
            · exact (hb.trans (hb5.mono hbs)).setCell (p := ⟨w1.heap.size, k, none⟩) (Nat.le_refl _) _
          case measure => simp [intOf]; omega
        · have HA := hid (upB_all Hup.out (show len l ≤ k by omega))
          have hb1s := hb1.size
          go_wp2_with (go_at_call 29; refine (term29 _ _ v _ _ _).mono ?_; rintro e w5 ⟨rfl, rfl⟩)
          go_ret
          have hk2 := box_below wr (.cells #[.pointer (some ⟨w.heap.size + 1, 0, none⟩), .int .i64 v, .slice (some ⟨w1.heap.size, 0, none⟩) (len l) (len l)] 88)
          have hk3 := Kept.of_below hk2 w.heap.size
          refine ⟨⟨_, rfl, ⟨_, (some ⟨w.heap.size + 1, 0, none⟩), some ⟨w1.heap.size, 0, none⟩, len l, rfl, by omega, heap_alloc_new _ _, (Hsb.out.kept (Kept.of_below hb _)).kept hk3, Hwf.out, hmx, w1.heap.size, cur', .inr ⟨rfl, by omega, hk3 _ _ _ (by omega) hrow (.inr (.inr (.inl rfl)))⟩, allTB_kept (Kept.of_below hk2 _) (by omega) HA.out⟩⟩, hb1.trans ((hb.trans (hk2.mono hbs)).mono (by omega))⟩

end Go.Proofs.Qxb6601988aDoor
