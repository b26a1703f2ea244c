/-
  zzBuildFormHB1.
-/
import Derived.Test.Qxb6601988aDoorMake
namespace Go.Proofs.Qxb6601988aDoor
open Go.RowKit
open Go.Deep (BT)

theorem infoP37 : (Tryd.prog.info? 37).map (fun i => (i.zero, i.size, i.bytes)) = some (some (.pointer none), 1, 8) := by kernel_rfl

def RowTB (w : World) (L : Nat) (sl : Option Addr) (m : Nat) (t : TL) : Prop := ∃ b cur, (m = 0 ∨ (sl = some ⟨b, 0, none⟩ ∧ L ≤ b ∧ w.heap[b]? = some (.cells cur 58 (0, 0)))) ∧ All (HdTB w L) t (fun k => cur[k]?)

theorem RowTB.kept {w w' : World} {L : Nat} {sl : Option Addr} {m : Nat} {t : TL} (h : RowTB w L sl m t) (hk : Kept L w w') : RowTB w' L sl m t := by
  obtain ⟨b, cur, h1, h2⟩ := h
  refine ⟨b, cur, ?_, allTB_kept hk (Nat.le_refl _) h2⟩
  rcases h1 with h1 | ⟨h1, h3, h4⟩
  · exact .inl h1
  · exact .inr ⟨h1, h3, hk _ _ _ h3 h4 (.inr (.inr (.inl rfl)))⟩

theorem RowTB.none (w : World) (L : Nat) (t : TL) (h : len t = 0) : RowTB w L none 0 t := by
  refine ⟨0, #[], .inl rfl, ?_⟩
  cases t with
  | nil => trivial
  | node _ _ _ _ _ => simp [len] at h

theorem allFB_none (w : World) (L : Nat) (t : FL) (h : len t = 0) (c : Nat → Option Value) : All (HdFB w L) t c := by
  cases t with
  | nil => trivial
  | node _ _ _ _ _ => simp [len] at h

set_option maxHeartbeats 2000000 in
set_option maxRecDepth 100000 in
theorem build8 : ∀ x : F1, ∀ (w : World) (p sl : Option Addr) (m cap : Nat) (xl : Option Addr) (n xcap : Nat), InF w x p sl m cap xl n xcap → costF1 x ≤ 1048576 →
    Calls Tryd.prog 8 #[.agg #[.int .i64 x.1.1, .pointer p, .slice sl m cap, .slice xl n xcap, .bool x.1.2.2.1], .bool false] w fun e w' =>
      (∃ q, e = .returned (.pointer (some ⟨q, 0, none⟩)) ∧ One (HdFB w' w.heap.size) x (some (.pointer (some ⟨q, 0, none⟩)))) ∧ Below w.heap.size w w' := by
  apply ind_one
  rintro ⟨op, s, sh, args⟩ l ih w p sl m cap xl n xcap hin hcost
  have hsym := hin.sym
  have hwf : wfI op := hin.wf
  obtain rfl := hin.lenA
  obtain rfl := hin.lenX
  have hla : len args ≤ 1048576 := by
    have h1 := len_le_cost args
    simp only [costF1] at hcost
    omega
  have hlc : len l ≤ 1048576 := by
    have h1 := lenF_le_cost l
    simp only [costF1] at hcost
    omega
  have hma : len args ≤ maxLen := by unfold maxLen; omega
  have hmx : len l ≤ maxLen := by unfold maxLen; omega
  have hsubA := fun (k : Nat) (y : T1) (hy : (toL args)[k]? = some y) => (show cost1 y ≤ 1048576 by
    have h1 := cost_mem hy
    simp only [costF1] at hcost
    omega)
  have hsub := fun (k : Nat) (y : F1) (hy : (toL l)[k]? = some y) => (show costF1 y ≤ 1048576 by
    have h1 := costF_mem hy
    simp only [costF1] at hcost h1 ⊢
    omega)
  have Hi := hid ih
  have Hsub := hid hsub
  have HsubA := hid hsubA
  have Hwf := hid hwf
  clear ih hsub hsubA hwf hcost
  go_enter Tryd.func8, Tryd.ntmps8
  rcases hsym with ⟨rfl, hs⟩ | ⟨nm, pb, po, hs, rfl, hc, hnm⟩
  · obtain rfl : s = none := hs
    rcases sl with _ | aa
    · have ha0 : len args = 0 := by
        obtain ⟨_, _, h | h, _⟩ := hin.subA
        · exact h
        · cases h
      rcases xl with _ | ax
      · have hx0 : len l = 0 := by
          obtain ⟨_, _, h | h, _⟩ := hin.subX
          · exact h
          · cases h
        simp only [ha0, hx0] at hin ⊢
        have hb1 := box_below w (.cells #[.int .i64 op, .pointer none, .slice none 0 cap, .slice none 0 xcap, .bool sh] 26)
        have Hsb := hid (show SymB (w.alloc (.cells #[.int .i64 op, .pointer none, .slice none 0 cap, .slice none 0 xcap, .bool sh] 26)) w.heap.size none none from .inl ⟨rfl, rfl⟩)
        have c0 : (w.alloc (.cells #[.int .i64 op, .pointer none, .slice none 0 cap, .slice none 0 xcap, .bool sh] 26)).cell? ⟨w.heap.size, 0, none⟩ = some (.int .i64 op) := by rw [World.cell?_alloc_at _ _ _ _ rfl]; rfl
        have c2 : (w.alloc (.cells #[.int .i64 op, .pointer none, .slice none 0 cap, .slice none 0 xcap, .bool sh] 26)).cell? ⟨w.heap.size, 2, none⟩ = some (.slice none 0 cap) := by rw [World.cell?_alloc_at _ _ _ _ rfl]; rfl
        have c3 : (w.alloc (.cells #[.int .i64 op, .pointer none, .slice none 0 cap, .slice none 0 xcap, .bool sh] 26)).cell? ⟨w.heap.size, 3, none⟩ = some (.slice none 0 xcap) := by rw [World.cell?_alloc_at _ _ _ _ rfl]; rfl
        have c4 : (w.alloc (.cells #[.int .i64 op, .pointer none, .slice none 0 cap, .slice none 0 xcap, .bool sh] 26)).cell? ⟨w.heap.size, 4, none⟩ = some (.bool sh) := by rw [World.cell?_alloc_at _ _ _ _ rfl]; rfl
        have Hin := hid (hin.below hb1)
        have hs0 : (w.alloc (.cells #[.int .i64 op, .pointer none, .slice none 0 cap, .slice none 0 xcap, .bool sh] 26)).heap.size = (w.heap.size + 1) := by simp
        have hs1 : w.heap.size < (w.alloc (.cells #[.int .i64 op, .pointer none, .slice none 0 cap, .slice none 0 xcap, .bool sh] 26)).heap.size := by rw [hs0]; omega
        have hqa := fun w => run_neq_slice_nil_any (P := Tryd.prog) w 23 53 none 0 cap 0 0 Tryd.underlying23
        have hqx := fun w => run_neq_slice_nil_any (P := Tryd.prog) w 24 26 none 0 xcap 0 0 Tryd.underlying24
        obtain ⟨i0, hi, hz0, hz1, hz2⟩ := info_parts infoP58
        obtain ⟨j0, hj, hy0, hy1, hy2⟩ := info_parts infoP37
        clear hin
        go_wp2_with (first | (go_at_call 16; fail) | (go_at_call 18; refine (form18 op _ _ _ _ none 0 0 _ _).mono ?_; rintro e w5 ⟨rfl, rfl⟩))
        generalize (w.alloc (.cells #[.int .i64 op, .pointer none, .slice none 0 cap, .slice none 0 xcap, .bool sh] 26)) = w1 at *
        generalize (w.heap.size + 1) = g0 at *
        subst hs0
        go_ret
        have hkE := box_below w1 (.cells #[.int .i64 op, .pointer none, .slice none 0 0, .slice none 0 0, .bool sh] 79)
        have hleE : w.heap.size ≤ w1.heap.size := by omega
        refine ⟨⟨_, rfl, ⟨_, none, none, 0, 0, none, 0, sh, rfl, hleE, ?_, Hsb.out.kept (Kept.of_below hkE _), Hwf.out, ha0.symm, (by omega), hmx, (RowTB.none w1 w.heap.size args ha0).kept (Kept.of_below hkE _), 0, #[], .inl hx0, allFB_none _ _ _ hx0 _⟩⟩, hb1.trans (hkE.mono hleE)⟩
        rw [heap_alloc_new]
        simp only [hx0]
      · simp only [ha0] at hin ⊢
        have hb1 := box_below w (.cells #[.int .i64 op, .pointer none, .slice none 0 cap, .slice (some ax) (len l) xcap, .bool sh] 26)
        have Hsb := hid (show SymB (w.alloc (.cells #[.int .i64 op, .pointer none, .slice none 0 cap, .slice (some ax) (len l) xcap, .bool sh] 26)) w.heap.size none none from .inl ⟨rfl, rfl⟩)
        have c0 : (w.alloc (.cells #[.int .i64 op, .pointer none, .slice none 0 cap, .slice (some ax) (len l) xcap, .bool sh] 26)).cell? ⟨w.heap.size, 0, none⟩ = some (.int .i64 op) := by rw [World.cell?_alloc_at _ _ _ _ rfl]; rfl
        have c2 : (w.alloc (.cells #[.int .i64 op, .pointer none, .slice none 0 cap, .slice (some ax) (len l) xcap, .bool sh] 26)).cell? ⟨w.heap.size, 2, none⟩ = some (.slice none 0 cap) := by rw [World.cell?_alloc_at _ _ _ _ rfl]; rfl
        have c3 : (w.alloc (.cells #[.int .i64 op, .pointer none, .slice none 0 cap, .slice (some ax) (len l) xcap, .bool sh] 26)).cell? ⟨w.heap.size, 3, none⟩ = some (.slice (some ax) (len l) xcap) := by rw [World.cell?_alloc_at _ _ _ _ rfl]; rfl
        have c4 : (w.alloc (.cells #[.int .i64 op, .pointer none, .slice none 0 cap, .slice (some ax) (len l) xcap, .bool sh] 26)).cell? ⟨w.heap.size, 4, none⟩ = some (.bool sh) := by rw [World.cell?_alloc_at _ _ _ _ rfl]; rfl
        have Hin := hid (hin.below hb1)
        have hs0 : (w.alloc (.cells #[.int .i64 op, .pointer none, .slice none 0 cap, .slice (some ax) (len l) xcap, .bool sh] 26)).heap.size = (w.heap.size + 1) := by simp
        have hs1 : w.heap.size < (w.alloc (.cells #[.int .i64 op, .pointer none, .slice none 0 cap, .slice (some ax) (len l) xcap, .bool sh] 26)).heap.size := by rw [hs0]; omega
        have hqa := fun w => run_neq_slice_nil_any (P := Tryd.prog) w 23 53 none 0 cap 0 0 Tryd.underlying23
        have hqx := fun w => run_neq_slice_nil_any (P := Tryd.prog) w 24 26 (some ax) (len l) xcap 0 0 Tryd.underlying24
        obtain ⟨i0, hi, hz0, hz1, hz2⟩ := info_parts infoP58
        obtain ⟨j0, hj, hy0, hy1, hy2⟩ := info_parts infoP37
        clear hin
        go_wp2_with (first | (go_at_call 16; fail) | (at_make; refine wpList_make_ptrs _ rfl _ _ 60 rfl j0 (.pointer none) Tryd.underlying60 hj hy0 hy1 rfl _ _ _ _ (len l) rfl rfl rfl rfl (by rw [hy2]; omega) (by unfold maxLen; omega) ?_; intro curx hcurx))
        generalize (w.alloc (.cells #[.int .i64 op, .pointer none, .slice none 0 cap, .slice (some ax) (len l) xcap, .bool sh] 26)) = w1 at *
        generalize (w.heap.size + 1) = g0 at *
        subst hs0
        have c0W := c0
        have c4W := c4
        go_loopw [9] (fun v ws => ∃ (k : Nat) (cur : Array Value), k ≤ len l ∧ v = .int .i64 k ∧ ws.heap[w1.heap.size]? = some (.cells cur 37 (0, 0)) ∧ cur.size = len l ∧ Hid (upB (HdFB ws (w1.heap.size + 1)) l k cur) ∧ Below w1.heap.size w1 ws) (fun v _ => len l - (intOf v).toNat)
        case atStart => exact ⟨0, curx, Nat.zero_le _, rfl, heap_alloc_new _ _, hcurx, upB_zero _ _ _, box_below _ _⟩
        case round =>
          clear hcurx
          obtain ⟨kx, cur', hkx, rfl, hrowx, hcur', Hup, hbx⟩ := hrel
          have hbxs := hbx.size
          have e0 := (hbx.cell (p := ⟨w.heap.size, 0, none⟩) hs1).trans c0W
          have e3 := (hbx.cell (p := ⟨w.heap.size, 3, none⟩) hs1).trans c3
          have e4 := (hbx.cell (p := ⟨w.heap.size, 4, none⟩) hs1).trans c4W
          have hgr : w1.heap.size < wr.heap.size := (Array.getElem?_eq_some_iff.1 hrowx).1
          by_cases hltx : kx < len l
          · obtain ⟨y, hy⟩ := toL_at hltx
            obtain ⟨b, o, p', sl', m', cap', xl', n', xcap', rfl_, d0, d1, d2, d3, d4, hiny⟩ := (Hin.out.below hbx).atX hy
            obtain rfl := Option.some.inj rfl_
            have Hy := hid hy
            have Hiny := hid hiny
            have Hrow := hid hrowx
            clear hy hiny rfl_ hrowx
            go_wp2_with (go_at_call 8; refine (Hi.out kx y Hy.out _ _ _ _ _ _ _ _ Hiny.out (Hsub.out kx y Hy.out)).mono ?_; rintro e w5 ⟨⟨q, rfl, hq⟩, hb5⟩
                         have hrow5 : w5.heap[w1.heap.size]? = some (.cells cur' 37 (0, 0)) := (hb5.block _ hgr).trans Hrow.out
                         have hcell : w5.cell? ⟨w1.heap.size, kx, none⟩ = some (cur'[kx]'(by omega)) := by simp [World.cell?, hrow5, hcur', hltx]
                         have hfz : w5.frozen? ⟨w1.heap.size, kx, none⟩ = false := by simp [World.frozen?, hrow5]
                         have Hq := hid hq
                         clear hq)
            go_roundw
            case rel =>
              refine ⟨kx + 1, _, by omega, by go_num, heap_setCell_same w5 w1.heap.size kx cur' 37 _ hrow5, by simpa using hcur', ?_, ?_⟩
              · refine upB_succ Hup.out (fun x g h => ?_) Hy.out (by omega) ?_
                · exact oneFB_kept ((Kept.of_below hb5 _).trans (Kept.store ⟨w1.heap.size, kx, none⟩ _ (by show w1.heap.size < _; omega))) (Nat.le_refl _) h
                · exact oneFB_kept (Kept.store ⟨w1.heap.size, kx, none⟩ _ hgr) (by omega) Hq.out
              · exact (hbx.trans (hb5.mono hbxs)).setCell (p := ⟨w1.heap.size, kx, none⟩) (Nat.le_refl _) _
            case measure => simp [intOf]; omega
          · have HX := hid (upB_all Hup.out (show len l ≤ kx by omega))
            have hbWs := hb1.size
            go_wp2_with (go_at_call 18; refine (form18 op _ _ _ _ _ _ _ _ _).mono ?_; rintro e w5 ⟨rfl, rfl⟩)
            go_ret
            have hk2 := box_below wr (.cells #[.int .i64 op, .pointer none, .slice none 0 0, .slice (some ⟨w1.heap.size, 0, none⟩) (len l) (len l), .bool sh] 79)
            have hk3 := Kept.of_below hk2 w.heap.size
            have hkx' := Kept.of_below hbx w.heap.size
            exact ⟨⟨_, rfl, ⟨_, none, none, 0, 0, some ⟨w1.heap.size, 0, none⟩, len l, sh, rfl, by omega, heap_alloc_new _ _, (Hsb.out.kept hkx').kept hk3, Hwf.out, ha0.symm, (by omega), hmx, ((RowTB.none w1 w.heap.size args ha0).kept hkx').kept hk3, w1.heap.size, cur', .inr ⟨rfl, by omega, hk3 _ _ _ (by omega) hrowx (.inr (.inr (.inr (.inr rfl))))⟩, HX.out.map (· = ·) (HdFB.kept (Kept.of_below hk2 _) (by omega)) (fun _ => rfl)⟩⟩, hb1.trans ((hbx.trans (hk2.mono hbxs)).mono (by omega))⟩
    · rcases xl with _ | ax
      · have hx0 : len l = 0 := by
          obtain ⟨_, _, h | h, _⟩ := hin.subX
          · exact h
          · cases h
        simp only [hx0] at hin ⊢
        have hb1 := box_below w (.cells #[.int .i64 op, .pointer none, .slice (some aa) (len args) cap, .slice none 0 xcap, .bool sh] 26)
        have Hsb := hid (show SymB (w.alloc (.cells #[.int .i64 op, .pointer none, .slice (some aa) (len args) cap, .slice none 0 xcap, .bool sh] 26)) w.heap.size none none from .inl ⟨rfl, rfl⟩)
        have c0 : (w.alloc (.cells #[.int .i64 op, .pointer none, .slice (some aa) (len args) cap, .slice none 0 xcap, .bool sh] 26)).cell? ⟨w.heap.size, 0, none⟩ = some (.int .i64 op) := by rw [World.cell?_alloc_at _ _ _ _ rfl]; rfl
        have c2 : (w.alloc (.cells #[.int .i64 op, .pointer none, .slice (some aa) (len args) cap, .slice none 0 xcap, .bool sh] 26)).cell? ⟨w.heap.size, 2, none⟩ = some (.slice (some aa) (len args) cap) := by rw [World.cell?_alloc_at _ _ _ _ rfl]; rfl
        have c3 : (w.alloc (.cells #[.int .i64 op, .pointer none, .slice (some aa) (len args) cap, .slice none 0 xcap, .bool sh] 26)).cell? ⟨w.heap.size, 3, none⟩ = some (.slice none 0 xcap) := by rw [World.cell?_alloc_at _ _ _ _ rfl]; rfl
        have c4 : (w.alloc (.cells #[.int .i64 op, .pointer none, .slice (some aa) (len args) cap, .slice none 0 xcap, .bool sh] 26)).cell? ⟨w.heap.size, 4, none⟩ = some (.bool sh) := by rw [World.cell?_alloc_at _ _ _ _ rfl]; rfl
        have Hin := hid (hin.below hb1)
        have hs0 : (w.alloc (.cells #[.int .i64 op, .pointer none, .slice (some aa) (len args) cap, .slice none 0 xcap, .bool sh] 26)).heap.size = (w.heap.size + 1) := by simp
        have hs1 : w.heap.size < (w.alloc (.cells #[.int .i64 op, .pointer none, .slice (some aa) (len args) cap, .slice none 0 xcap, .bool sh] 26)).heap.size := by rw [hs0]; omega
        have hqa := fun w => run_neq_slice_nil_any (P := Tryd.prog) w 23 53 (some aa) (len args) cap 0 0 Tryd.underlying23
        have hqx := fun w => run_neq_slice_nil_any (P := Tryd.prog) w 24 26 none 0 xcap 0 0 Tryd.underlying24
        obtain ⟨i0, hi, hz0, hz1, hz2⟩ := info_parts infoP58
        obtain ⟨j0, hj, hy0, hy1, hy2⟩ := info_parts infoP37
        clear hin
        go_wp2_with (first | (go_at_call 16; fail) | (at_make; refine wpList_make_ptrs _ rfl _ _ 57 rfl i0 (.pointer none) Tryd.underlying57 hi hz0 hz1 rfl _ _ _ _ (len args) rfl rfl rfl rfl (by rw [hz2]; omega) (by unfold maxLen; omega) ?_; intro cur hcur))
        generalize (w.alloc (.cells #[.int .i64 op, .pointer none, .slice (some aa) (len args) cap, .slice none 0 xcap, .bool sh] 26)) = w1 at *
        generalize (w.heap.size + 1) = g0 at *
        subst hs0
        go_loopw [7] (fun v ws => ∃ (k : Nat) (cur : Array Value), k ≤ len args ∧ v = .int .i64 k ∧ ws.heap[w1.heap.size]? = some (.cells cur 58 (0, 0)) ∧ cur.size = len args ∧ Hid (upB (HdTB ws (w1.heap.size + 1)) args k cur) ∧ Below w1.heap.size w1 ws) (fun v _ => len args - (intOf v).toNat)
        case atStart => exact ⟨0, cur, Nat.zero_le _, rfl, heap_alloc_new _ _, hcur, upB_zero _ _ _, box_below _ _⟩
        case round =>
          clear hcur
          obtain ⟨k, cura, hk, rfl, hrow, hcura, Hup, hb⟩ := hrel
          have hbs := hb.size
          have c2r := (hb.cell (p := ⟨w.heap.size, 2, none⟩) hs1).trans c2
          have hgr : w1.heap.size < wr.heap.size := (Array.getElem?_eq_some_iff.1 hrow).1
          by_cases hlt : k < len args
          · obtain ⟨y, hy⟩ := toL_at hlt
            obtain ⟨b, o, p', sl', n', cap', rfl_, d0, d1, d2, hiny⟩ := (Hin.out.below hb).atA hy
            obtain rfl := Option.some.inj rfl_
            have Hy := hid hy
            have Hiny := hid hiny
            have Hrow := hid hrow
            clear hy hiny rfl_ hrow
            go_wp2_with (go_at_call 17; refine (build17 y _ _ _ _ _ Hiny.out (HsubA.out k y Hy.out)).mono ?_; rintro e w5 ⟨⟨q, rfl, hq⟩, hb5⟩
                         have hrow5 : w5.heap[w1.heap.size]? = some (.cells cura 58 (0, 0)) := (hb5.block _ hgr).trans Hrow.out
                         have hcell : w5.cell? ⟨w1.heap.size, k, none⟩ = some (cura[k]'(by omega)) := by simp [World.cell?, hrow5, hcura, hlt]
                         have hfz : w5.frozen? ⟨w1.heap.size, k, none⟩ = false := by simp [World.frozen?, hrow5]
                         have Hq := hid hq
                         clear hq)
            go_roundw
            case rel =>
              refine ⟨k + 1, _, by omega, by go_num, heap_setCell_same w5 w1.heap.size k cura 58 _ hrow5, by simpa using hcura, ?_, ?_⟩
              · refine upB_succ Hup.out (fun x g h => ?_) Hy.out (by omega) ?_
                · exact oneTB_kept ((Kept.of_below hb5 _).trans (Kept.store ⟨w1.heap.size, k, none⟩ _ (by show w1.heap.size < _; omega))) (Nat.le_refl _) h
                · exact oneTB_kept (Kept.store ⟨w1.heap.size, k, none⟩ _ hgr) (by omega) Hq.out
              · exact (hb.trans (hb5.mono hbs)).setCell (p := ⟨w1.heap.size, k, none⟩) (Nat.le_refl _) _
            case measure => simp [intOf]; omega
          · have HA := hid (upB_all Hup.out (show len args ≤ k by omega))
            have hb1s := hb1.size
            have hsW : w.heap.size < wr.heap.size := by omega
            have HR := hid (show RowTB wr w.heap.size (some ⟨w1.heap.size, 0, none⟩) (len args) args from ⟨w1.heap.size, cura, .inr ⟨rfl, by omega, hrow⟩, allTB_kept (Kept.refl _ _) (by omega) HA.out⟩)
            have HsW := hid (Hsb.out.kept (Kept.of_below hb _))
            have HinW := hid (Hin.out.below hb)
            have hbW : Below w.heap.size w wr := hb1.trans (hb.mono (by omega))
            have c0W := (hb.cell (p := ⟨w.heap.size, 0, none⟩) hs1).trans c0
            have c3W := (hb.cell (p := ⟨w.heap.size, 3, none⟩) hs1).trans c3
            have c4W := (hb.cell (p := ⟨w.heap.size, 4, none⟩) hs1).trans c4
            clear hrow hcura Hup HA c0 c2 c3 c4
            go_wp2_with (go_at_call 18; refine (form18 op _ _ _ _ none 0 0 _ _).mono ?_; rintro e w5 ⟨rfl, rfl⟩)
            go_ret
            have hkE := box_below wr (.cells #[.int .i64 op, .pointer none, .slice (some ⟨w1.heap.size, 0, none⟩) (len args) (len args), .slice none 0 0, .bool sh] 79)
            have hleE : w.heap.size ≤ wr.heap.size := by omega
            refine ⟨⟨_, rfl, ⟨_, none, some ⟨w1.heap.size, 0, none⟩, len args, len args, none, 0, sh, rfl, hleE, ?_, HsW.out.kept (Kept.of_below hkE _), Hwf.out, rfl, hma, hmx, HR.out.kept (Kept.of_below hkE _), 0, #[], .inl hx0, allFB_none _ _ _ hx0 _⟩⟩, hbW.trans (hkE.mono hleE)⟩
            rw [heap_alloc_new]
            simp only [hx0]
      · skip
        have hb1 := box_below w (.cells #[.int .i64 op, .pointer none, .slice (some aa) (len args) cap, .slice (some ax) (len l) xcap, .bool sh] 26)
        have Hsb := hid (show SymB (w.alloc (.cells #[.int .i64 op, .pointer none, .slice (some aa) (len args) cap, .slice (some ax) (len l) xcap, .bool sh] 26)) w.heap.size none none from .inl ⟨rfl, rfl⟩)
        have c0 : (w.alloc (.cells #[.int .i64 op, .pointer none, .slice (some aa) (len args) cap, .slice (some ax) (len l) xcap, .bool sh] 26)).cell? ⟨w.heap.size, 0, none⟩ = some (.int .i64 op) := by rw [World.cell?_alloc_at _ _ _ _ rfl]; rfl
        have c2 : (w.alloc (.cells #[.int .i64 op, .pointer none, .slice (some aa) (len args) cap, .slice (some ax) (len l) xcap, .bool sh] 26)).cell? ⟨w.heap.size, 2, none⟩ = some (.slice (some aa) (len args) cap) := by rw [World.cell?_alloc_at _ _ _ _ rfl]; rfl
        have c3 : (w.alloc (.cells #[.int .i64 op, .pointer none, .slice (some aa) (len args) cap, .slice (some ax) (len l) xcap, .bool sh] 26)).cell? ⟨w.heap.size, 3, none⟩ = some (.slice (some ax) (len l) xcap) := by rw [World.cell?_alloc_at _ _ _ _ rfl]; rfl
        have c4 : (w.alloc (.cells #[.int .i64 op, .pointer none, .slice (some aa) (len args) cap, .slice (some ax) (len l) xcap, .bool sh] 26)).cell? ⟨w.heap.size, 4, none⟩ = some (.bool sh) := by rw [World.cell?_alloc_at _ _ _ _ rfl]; rfl
        have Hin := hid (hin.below hb1)
        have hs0 : (w.alloc (.cells #[.int .i64 op, .pointer none, .slice (some aa) (len args) cap, .slice (some ax) (len l) xcap, .bool sh] 26)).heap.size = (w.heap.size + 1) := by simp
        have hs1 : w.heap.size < (w.alloc (.cells #[.int .i64 op, .pointer none, .slice (some aa) (len args) cap, .slice (some ax) (len l) xcap, .bool sh] 26)).heap.size := by rw [hs0]; omega
        have hqa := fun w => run_neq_slice_nil_any (P := Tryd.prog) w 23 53 (some aa) (len args) cap 0 0 Tryd.underlying23
        have hqx := fun w => run_neq_slice_nil_any (P := Tryd.prog) w 24 26 (some ax) (len l) xcap 0 0 Tryd.underlying24
        obtain ⟨i0, hi, hz0, hz1, hz2⟩ := info_parts infoP58
        obtain ⟨j0, hj, hy0, hy1, hy2⟩ := info_parts infoP37
        clear hin
        go_wp2_with (first | (go_at_call 16; fail) | (at_make; refine wpList_make_ptrs _ rfl _ _ 57 rfl i0 (.pointer none) Tryd.underlying57 hi hz0 hz1 rfl _ _ _ _ (len args) rfl rfl rfl rfl (by rw [hz2]; omega) (by unfold maxLen; omega) ?_; intro cur hcur))
        generalize (w.alloc (.cells #[.int .i64 op, .pointer none, .slice (some aa) (len args) cap, .slice (some ax) (len l) xcap, .bool sh] 26)) = w1 at *
        generalize (w.heap.size + 1) = g0 at *
        subst hs0
        go_loopw [7] (fun v ws => ∃ (k : Nat) (cur : Array Value), k ≤ len args ∧ v = .int .i64 k ∧ ws.heap[w1.heap.size]? = some (.cells cur 58 (0, 0)) ∧ cur.size = len args ∧ Hid (upB (HdTB ws (w1.heap.size + 1)) args k cur) ∧ Below w1.heap.size w1 ws) (fun v _ => len args - (intOf v).toNat)
        case atStart => exact ⟨0, cur, Nat.zero_le _, rfl, heap_alloc_new _ _, hcur, upB_zero _ _ _, box_below _ _⟩
        case round =>
          clear hcur
          obtain ⟨k, cura, hk, rfl, hrow, hcura, Hup, hb⟩ := hrel
          have hbs := hb.size
          have c2r := (hb.cell (p := ⟨w.heap.size, 2, none⟩) hs1).trans c2
          have hgr : w1.heap.size < wr.heap.size := (Array.getElem?_eq_some_iff.1 hrow).1
          by_cases hlt : k < len args
          · obtain ⟨y, hy⟩ := toL_at hlt
            obtain ⟨b, o, p', sl', n', cap', rfl_, d0, d1, d2, hiny⟩ := (Hin.out.below hb).atA hy
            obtain rfl := Option.some.inj rfl_
            have Hy := hid hy
            have Hiny := hid hiny
            have Hrow := hid hrow
            clear hy hiny rfl_ hrow
            go_wp2_with (go_at_call 17; refine (build17 y _ _ _ _ _ Hiny.out (HsubA.out k y Hy.out)).mono ?_; rintro e w5 ⟨⟨q, rfl, hq⟩, hb5⟩
                         have hrow5 : w5.heap[w1.heap.size]? = some (.cells cura 58 (0, 0)) := (hb5.block _ hgr).trans Hrow.out
                         have hcell : w5.cell? ⟨w1.heap.size, k, none⟩ = some (cura[k]'(by omega)) := by simp [World.cell?, hrow5, hcura, hlt]
                         have hfz : w5.frozen? ⟨w1.heap.size, k, none⟩ = false := by simp [World.frozen?, hrow5]
                         have Hq := hid hq
                         clear hq)
            go_roundw
            case rel =>
              refine ⟨k + 1, _, by omega, by go_num, heap_setCell_same w5 w1.heap.size k cura 58 _ hrow5, by simpa using hcura, ?_, ?_⟩
              · refine upB_succ Hup.out (fun x g h => ?_) Hy.out (by omega) ?_
                · exact oneTB_kept ((Kept.of_below hb5 _).trans (Kept.store ⟨w1.heap.size, k, none⟩ _ (by show w1.heap.size < _; omega))) (Nat.le_refl _) h
                · exact oneTB_kept (Kept.store ⟨w1.heap.size, k, none⟩ _ hgr) (by omega) Hq.out
              · exact (hb.trans (hb5.mono hbs)).setCell (p := ⟨w1.heap.size, k, none⟩) (Nat.le_refl _) _
            case measure => simp [intOf]; omega
          · have HA := hid (upB_all Hup.out (show len args ≤ k by omega))
            have hb1s := hb1.size
            have hsW : w.heap.size < wr.heap.size := by omega
            have HR := hid (show RowTB wr w.heap.size (some ⟨w1.heap.size, 0, none⟩) (len args) args from ⟨w1.heap.size, cura, .inr ⟨rfl, by omega, hrow⟩, allTB_kept (Kept.refl _ _) (by omega) HA.out⟩)
            have HsW := hid (Hsb.out.kept (Kept.of_below hb _))
            have HinW := hid (Hin.out.below hb)
            have hbW : Below w.heap.size w wr := hb1.trans (hb.mono (by omega))
            have c0W := (hb.cell (p := ⟨w.heap.size, 0, none⟩) hs1).trans c0
            have c3W := (hb.cell (p := ⟨w.heap.size, 3, none⟩) hs1).trans c3
            have c4W := (hb.cell (p := ⟨w.heap.size, 4, none⟩) hs1).trans c4
            clear hrow hcura Hup HA c0 c2 c3 c4
            go_wp2_with (at_make; refine wpList_make_ptrs _ rfl _ _ 60 rfl j0 (.pointer none) Tryd.underlying60 hj hy0 hy1 rfl _ _ _ _ (len l) rfl rfl rfl rfl (by rw [hy2]; omega) (by unfold maxLen; omega) ?_; intro curx hcurx)
            obtain ⟨wm, rfl⟩ : ∃ wm, wm = wr := ⟨_, rfl⟩
            go_loopw [9] (fun v ws => ∃ (k : Nat) (cur : Array Value), k ≤ len l ∧ v = .int .i64 k ∧ ws.heap[wm.heap.size]? = some (.cells cur 37 (0, 0)) ∧ cur.size = len l ∧ Hid (upB (HdFB ws (wm.heap.size + 1)) l k cur) ∧ Below wm.heap.size wm ws) (fun v _ => len l - (intOf v).toNat)
            case atStart => exact ⟨0, curx, Nat.zero_le _, rfl, heap_alloc_new _ _, hcurx, upB_zero _ _ _, box_below _ _⟩
            case round =>
              clear hcurx
              obtain ⟨kx, cur', hkx, rfl, hrowx, hcur', Hup, hbx⟩ := hrel
              have hbxs := hbx.size
              have e0 := (hbx.cell (p := ⟨w.heap.size, 0, none⟩) hsW).trans c0W
              have e3 := (hbx.cell (p := ⟨w.heap.size, 3, none⟩) hsW).trans c3W
              have e4 := (hbx.cell (p := ⟨w.heap.size, 4, none⟩) hsW).trans c4W
              have hgr : wm.heap.size < wr.heap.size := (Array.getElem?_eq_some_iff.1 hrowx).1
              by_cases hltx : kx < len l
              · obtain ⟨y, hy⟩ := toL_at hltx
                obtain ⟨b, o, p', sl', m', cap', xl', n', xcap', rfl_, d0, d1, d2, d3, d4, hiny⟩ := (HinW.out.below hbx).atX hy
                obtain rfl := Option.some.inj rfl_
                have Hy := hid hy
                have Hiny := hid hiny
                have Hrow := hid hrowx
                clear hy hiny rfl_ hrowx
                go_wp2_with (go_at_call 8; refine (Hi.out kx y Hy.out _ _ _ _ _ _ _ _ Hiny.out (Hsub.out kx y Hy.out)).mono ?_; rintro e w5 ⟨⟨q, rfl, hq⟩, hb5⟩
                             have hrow5 : w5.heap[wm.heap.size]? = some (.cells cur' 37 (0, 0)) := (hb5.block _ hgr).trans Hrow.out
                             have hcell : w5.cell? ⟨wm.heap.size, kx, none⟩ = some (cur'[kx]'(by omega)) := by simp [World.cell?, hrow5, hcur', hltx]
                             have hfz : w5.frozen? ⟨wm.heap.size, kx, none⟩ = false := by simp [World.frozen?, hrow5]
                             have Hq := hid hq
                             clear hq)
                go_roundw
                case rel =>
                  refine ⟨kx + 1, _, by omega, by go_num, heap_setCell_same w5 wm.heap.size kx cur' 37 _ hrow5, by simpa using hcur', ?_, ?_⟩
                  · refine upB_succ Hup.out (fun x g h => ?_) Hy.out (by omega) ?_
                    · exact oneFB_kept ((Kept.of_below hb5 _).trans (Kept.store ⟨wm.heap.size, kx, none⟩ _ (by show wm.heap.size < _; omega))) (Nat.le_refl _) h
                    · exact oneFB_kept (Kept.store ⟨wm.heap.size, kx, none⟩ _ hgr) (by omega) Hq.out
                  · exact (hbx.trans (hb5.mono hbxs)).setCell (p := ⟨wm.heap.size, kx, none⟩) (Nat.le_refl _) _
                case measure => simp [intOf]; omega
              · have HX := hid (upB_all Hup.out (show len l ≤ kx by omega))
                have hbWs := hbW.size
                go_wp2_with (go_at_call 18; refine (form18 op _ _ _ _ _ _ _ _ _).mono ?_; rintro e w5 ⟨rfl, rfl⟩)
                go_ret
                have hk2 := box_below wr (.cells #[.int .i64 op, .pointer none, .slice (some ⟨w1.heap.size, 0, none⟩) (len args) (len args), .slice (some ⟨wm.heap.size, 0, none⟩) (len l) (len l), .bool sh] 79)
                have hk3 := Kept.of_below hk2 w.heap.size
                have hkx' := Kept.of_below hbx w.heap.size
                exact ⟨⟨_, rfl, ⟨_, none, some ⟨w1.heap.size, 0, none⟩, len args, len args, some ⟨wm.heap.size, 0, none⟩, len l, sh, rfl, by omega, heap_alloc_new _ _, (HsW.out.kept hkx').kept hk3, Hwf.out, rfl, hma, hmx, (HR.out.kept hkx').kept hk3, wm.heap.size, cur', .inr ⟨rfl, by omega, hk3 _ _ _ (by omega) hrowx (.inr (.inr (.inr (.inr rfl))))⟩, HX.out.map (· = ·) (HdFB.kept (Kept.of_below hk2 _) (by omega)) (fun _ => rfl)⟩⟩, hbW.trans ((hbx.trans (hk2.mono hbxs)).mono (by omega))⟩
  · obtain rfl : s = some nm := hs
    have hpb : pb < w.heap.size := World.block_lt_of_cell? _ _ hc
    rcases sl with _ | aa
    · have ha0 : len args = 0 := by
        obtain ⟨_, _, h | h, _⟩ := hin.subA
        · exact h
        · cases h
      rcases xl with _ | ax
      · have hx0 : len l = 0 := by
          obtain ⟨_, _, h | h, _⟩ := hin.subX
          · exact h
          · cases h
        simp only [ha0, hx0] at hin ⊢
        have hb0 := box_below w (.cells #[.int .i64 op, .pointer (some ⟨pb, po, none⟩), .slice none 0 cap, .slice none 0 xcap, .bool sh] 26)
        have hc' := (hb0.cell (p := ⟨pb, po, none⟩) hpb).trans hc
        have f1 : (w.alloc (.cells #[.int .i64 op, .pointer (some ⟨pb, po, none⟩), .slice none 0 cap, .slice none 0 xcap, .bool sh] 26)).cell? ⟨w.heap.size, 1, none⟩ = some (.pointer (some ⟨pb, po, none⟩)) := by rw [World.cell?_alloc_at _ _ _ _ rfl]; rfl
        have hb1 := below2 w (.cells #[.int .i64 op, .pointer (some ⟨pb, po, none⟩), .slice none 0 cap, .slice none 0 xcap, .bool sh] 26) (.cells #[.string nm, .slice none 0 0, .pointer none] 83)
        have Hsb := hid (show SymB ((w.alloc (.cells #[.int .i64 op, .pointer (some ⟨pb, po, none⟩), .slice none 0 cap, .slice none 0 xcap, .bool sh] 26)).alloc (.cells #[.string nm, .slice none 0 0, .pointer none] 83)) w.heap.size (some ⟨w.heap.size + 1, 0, none⟩) (some nm) from .inr ⟨nm, _, rfl, rfl, by omega, by rw [show w.heap.size + 1 = (w.alloc (.cells #[.int .i64 op, .pointer (some ⟨pb, po, none⟩), .slice none 0 cap, .slice none 0 xcap, .bool sh] 26)).heap.size by simp]; exact heap_alloc_new _ _, hnm⟩)
        have c0 : ((w.alloc (.cells #[.int .i64 op, .pointer (some ⟨pb, po, none⟩), .slice none 0 cap, .slice none 0 xcap, .bool sh] 26)).alloc (.cells #[.string nm, .slice none 0 0, .pointer none] 83)).cell? ⟨w.heap.size, 0, none⟩ = some (.int .i64 op) := by rw [World.cell?_alloc_past _ _ _ (by simp), World.cell?_alloc_at _ _ _ _ rfl]; rfl
        have c2 : ((w.alloc (.cells #[.int .i64 op, .pointer (some ⟨pb, po, none⟩), .slice none 0 cap, .slice none 0 xcap, .bool sh] 26)).alloc (.cells #[.string nm, .slice none 0 0, .pointer none] 83)).cell? ⟨w.heap.size, 2, none⟩ = some (.slice none 0 cap) := by rw [World.cell?_alloc_past _ _ _ (by simp), World.cell?_alloc_at _ _ _ _ rfl]; rfl
        have c3 : ((w.alloc (.cells #[.int .i64 op, .pointer (some ⟨pb, po, none⟩), .slice none 0 cap, .slice none 0 xcap, .bool sh] 26)).alloc (.cells #[.string nm, .slice none 0 0, .pointer none] 83)).cell? ⟨w.heap.size, 3, none⟩ = some (.slice none 0 xcap) := by rw [World.cell?_alloc_past _ _ _ (by simp), World.cell?_alloc_at _ _ _ _ rfl]; rfl
        have c4 : ((w.alloc (.cells #[.int .i64 op, .pointer (some ⟨pb, po, none⟩), .slice none 0 cap, .slice none 0 xcap, .bool sh] 26)).alloc (.cells #[.string nm, .slice none 0 0, .pointer none] 83)).cell? ⟨w.heap.size, 4, none⟩ = some (.bool sh) := by rw [World.cell?_alloc_past _ _ _ (by simp), World.cell?_alloc_at _ _ _ _ rfl]; rfl
        have Hin := hid (hin.below hb1)
        have hs0 : ((w.alloc (.cells #[.int .i64 op, .pointer (some ⟨pb, po, none⟩), .slice none 0 cap, .slice none 0 xcap, .bool sh] 26)).alloc (.cells #[.string nm, .slice none 0 0, .pointer none] 83)).heap.size = (w.heap.size + 1 + 1) := by simp
        have hs1 : w.heap.size < ((w.alloc (.cells #[.int .i64 op, .pointer (some ⟨pb, po, none⟩), .slice none 0 cap, .slice none 0 xcap, .bool sh] 26)).alloc (.cells #[.string nm, .slice none 0 0, .pointer none] 83)).heap.size := by rw [hs0]; omega
        have hqa := fun w => run_neq_slice_nil_any (P := Tryd.prog) w 23 53 none 0 cap 0 0 Tryd.underlying23
        have hqx := fun w => run_neq_slice_nil_any (P := Tryd.prog) w 24 26 none 0 xcap 0 0 Tryd.underlying24
        obtain ⟨i0, hi, hz0, hz1, hz2⟩ := info_parts infoP58
        obtain ⟨j0, hj, hy0, hy1, hy2⟩ := info_parts infoP37
        clear hin
        go_wp2_with (first | (go_at_call 16; refine (sym16 nm _).mono ?_; rintro e w5 ⟨rfl, rfl⟩) | (go_at_call 18; refine (form18 op _ _ _ _ none 0 0 _ _).mono ?_; rintro e w5 ⟨rfl, rfl⟩))
        generalize ((w.alloc (.cells #[.int .i64 op, .pointer (some ⟨pb, po, none⟩), .slice none 0 cap, .slice none 0 xcap, .bool sh] 26)).alloc (.cells #[.string nm, .slice none 0 0, .pointer none] 83)) = w1 at *
        generalize (w.heap.size + 1 + 1) = g0 at *
        subst hs0
        go_ret
        have hkE := box_below w1 (.cells #[.int .i64 op, .pointer (some ⟨w.heap.size + 1, 0, none⟩), .slice none 0 0, .slice none 0 0, .bool sh] 79)
        have hleE : w.heap.size ≤ w1.heap.size := by omega
        refine ⟨⟨_, rfl, ⟨_, (some ⟨w.heap.size + 1, 0, none⟩), none, 0, 0, none, 0, sh, rfl, hleE, ?_, Hsb.out.kept (Kept.of_below hkE _), Hwf.out, ha0.symm, (by omega), hmx, (RowTB.none w1 w.heap.size args ha0).kept (Kept.of_below hkE _), 0, #[], .inl hx0, allFB_none _ _ _ hx0 _⟩⟩, hb1.trans (hkE.mono hleE)⟩
        rw [heap_alloc_new]
        simp only [hx0]
      · simp only [ha0] at hin ⊢
        have hb0 := box_below w (.cells #[.int .i64 op, .pointer (some ⟨pb, po, none⟩), .slice none 0 cap, .slice (some ax) (len l) xcap, .bool sh] 26)
        have hc' := (hb0.cell (p := ⟨pb, po, none⟩) hpb).trans hc
        have f1 : (w.alloc (.cells #[.int .i64 op, .pointer (some ⟨pb, po, none⟩), .slice none 0 cap, .slice (some ax) (len l) xcap, .bool sh] 26)).cell? ⟨w.heap.size, 1, none⟩ = some (.pointer (some ⟨pb, po, none⟩)) := by rw [World.cell?_alloc_at _ _ _ _ rfl]; rfl
        have hb1 := below2 w (.cells #[.int .i64 op, .pointer (some ⟨pb, po, none⟩), .slice none 0 cap, .slice (some ax) (len l) xcap, .bool sh] 26) (.cells #[.string nm, .slice none 0 0, .pointer none] 83)
        have Hsb := hid (show SymB ((w.alloc (.cells #[.int .i64 op, .pointer (some ⟨pb, po, none⟩), .slice none 0 cap, .slice (some ax) (len l) xcap, .bool sh] 26)).alloc (.cells #[.string nm, .slice none 0 0, .pointer none] 83)) w.heap.size (some ⟨w.heap.size + 1, 0, none⟩) (some nm) from .inr ⟨nm, _, rfl, rfl, by omega, by rw [show w.heap.size + 1 = (w.alloc (.cells #[.int .i64 op, .pointer (some ⟨pb, po, none⟩), .slice none 0 cap, .slice (some ax) (len l) xcap, .bool sh] 26)).heap.size by simp]; exact heap_alloc_new _ _, hnm⟩)
        have c0 : ((w.alloc (.cells #[.int .i64 op, .pointer (some ⟨pb, po, none⟩), .slice none 0 cap, .slice (some ax) (len l) xcap, .bool sh] 26)).alloc (.cells #[.string nm, .slice none 0 0, .pointer none] 83)).cell? ⟨w.heap.size, 0, none⟩ = some (.int .i64 op) := by rw [World.cell?_alloc_past _ _ _ (by simp), World.cell?_alloc_at _ _ _ _ rfl]; rfl
        have c2 : ((w.alloc (.cells #[.int .i64 op, .pointer (some ⟨pb, po, none⟩), .slice none 0 cap, .slice (some ax) (len l) xcap, .bool sh] 26)).alloc (.cells #[.string nm, .slice none 0 0, .pointer none] 83)).cell? ⟨w.heap.size, 2, none⟩ = some (.slice none 0 cap) := by rw [World.cell?_alloc_past _ _ _ (by simp), World.cell?_alloc_at _ _ _ _ rfl]; rfl
        have c3 : ((w.alloc (.cells #[.int .i64 op, .pointer (some ⟨pb, po, none⟩), .slice none 0 cap, .slice (some ax) (len l) xcap, .bool sh] 26)).alloc (.cells #[.string nm, .slice none 0 0, .pointer none] 83)).cell? ⟨w.heap.size, 3, none⟩ = some (.slice (some ax) (len l) xcap) := by rw [World.cell?_alloc_past _ _ _ (by simp), World.cell?_alloc_at _ _ _ _ rfl]; rfl
        have c4 : ((w.alloc (.cells #[.int .i64 op, .pointer (some ⟨pb, po, none⟩), .slice none 0 cap, .slice (some ax) (len l) xcap, .bool sh] 26)).alloc (.cells #[.string nm, .slice none 0 0, .pointer none] 83)).cell? ⟨w.heap.size, 4, none⟩ = some (.bool sh) := by rw [World.cell?_alloc_past _ _ _ (by simp), World.cell?_alloc_at _ _ _ _ rfl]; rfl
        have Hin := hid (hin.below hb1)
        have hs0 : ((w.alloc (.cells #[.int .i64 op, .pointer (some ⟨pb, po, none⟩), .slice none 0 cap, .slice (some ax) (len l) xcap, .bool sh] 26)).alloc (.cells #[.string nm, .slice none 0 0, .pointer none] 83)).heap.size = (w.heap.size + 1 + 1) := by simp
        have hs1 : w.heap.size < ((w.alloc (.cells #[.int .i64 op, .pointer (some ⟨pb, po, none⟩), .slice none 0 cap, .slice (some ax) (len l) xcap, .bool sh] 26)).alloc (.cells #[.string nm, .slice none 0 0, .pointer none] 83)).heap.size := by rw [hs0]; omega
        have hqa := fun w => run_neq_slice_nil_any (P := Tryd.prog) w 23 53 none 0 cap 0 0 Tryd.underlying23
        have hqx := fun w => run_neq_slice_nil_any (P := Tryd.prog) w 24 26 (some ax) (len l) xcap 0 0 Tryd.underlying24
        obtain ⟨i0, hi, hz0, hz1, hz2⟩ := info_parts infoP58
        obtain ⟨j0, hj, hy0, hy1, hy2⟩ := info_parts infoP37
        clear hin
        go_wp2_with (first | (go_at_call 16; refine (sym16 nm _).mono ?_; rintro e w5 ⟨rfl, rfl⟩) | (at_make; refine wpList_make_ptrs _ rfl _ _ 60 rfl j0 (.pointer none) Tryd.underlying60 hj hy0 hy1 rfl _ _ _ _ (len l) rfl rfl rfl rfl (by rw [hy2]; omega) (by unfold maxLen; omega) ?_; intro curx hcurx))
        generalize ((w.alloc (.cells #[.int .i64 op, .pointer (some ⟨pb, po, none⟩), .slice none 0 cap, .slice (some ax) (len l) xcap, .bool sh] 26)).alloc (.cells #[.string nm, .slice none 0 0, .pointer none] 83)) = w1 at *
        generalize (w.heap.size + 1 + 1) = g0 at *
        subst hs0
        have c0W := c0
        have c4W := c4
        go_loopw [9] (fun v ws => ∃ (k : Nat) (cur : Array Value), k ≤ len l ∧ v = .int .i64 k ∧ ws.heap[w1.heap.size]? = some (.cells cur 37 (0, 0)) ∧ cur.size = len l ∧ Hid (upB (HdFB ws (w1.heap.size + 1)) l k cur) ∧ Below w1.heap.size w1 ws) (fun v _ => len l - (intOf v).toNat)
        case atStart => exact ⟨0, curx, Nat.zero_le _, rfl, heap_alloc_new _ _, hcurx, upB_zero _ _ _, box_below _ _⟩
        case round =>
          clear hcurx
          obtain ⟨kx, cur', hkx, rfl, hrowx, hcur', Hup, hbx⟩ := hrel
          have hbxs := hbx.size
          have e0 := (hbx.cell (p := ⟨w.heap.size, 0, none⟩) hs1).trans c0W
          have e3 := (hbx.cell (p := ⟨w.heap.size, 3, none⟩) hs1).trans c3
          have e4 := (hbx.cell (p := ⟨w.heap.size, 4, none⟩) hs1).trans c4W
          have hgr : w1.heap.size < wr.heap.size := (Array.getElem?_eq_some_iff.1 hrowx).1
          by_cases hltx : kx < len l
          · obtain ⟨y, hy⟩ := toL_at hltx
            obtain ⟨b, o, p', sl', m', cap', xl', n', xcap', rfl_, d0, d1, d2, d3, d4, hiny⟩ := (Hin.out.below hbx).atX hy
            obtain rfl := Option.some.inj rfl_
            have Hy := hid hy
            have Hiny := hid hiny
            have Hrow := hid hrowx
            clear hy hiny rfl_ hrowx
            go_wp2_with (go_at_call 8; refine (Hi.out kx y Hy.out _ _ _ _ _ _ _ _ Hiny.out (Hsub.out kx y Hy.out)).mono ?_; rintro e w5 ⟨⟨q, rfl, hq⟩, hb5⟩
                         have hrow5 : w5.heap[w1.heap.size]? = some (.cells cur' 37 (0, 0)) := (hb5.block _ hgr).trans Hrow.out
                         have hcell : w5.cell? ⟨w1.heap.size, kx, none⟩ = some (cur'[kx]'(by omega)) := by simp [World.cell?, hrow5, hcur', hltx]
                         have hfz : w5.frozen? ⟨w1.heap.size, kx, none⟩ = false := by simp [World.frozen?, hrow5]
                         have Hq := hid hq
                         clear hq)
            go_roundw
            case rel =>
              refine ⟨kx + 1, _, by omega, by go_num, heap_setCell_same w5 w1.heap.size kx cur' 37 _ hrow5, by simpa using hcur', ?_, ?_⟩
              · refine upB_succ Hup.out (fun x g h => ?_) Hy.out (by omega) ?_
                · exact oneFB_kept ((Kept.of_below hb5 _).trans (Kept.store ⟨w1.heap.size, kx, none⟩ _ (by show w1.heap.size < _; omega))) (Nat.le_refl _) h
                · exact oneFB_kept (Kept.store ⟨w1.heap.size, kx, none⟩ _ hgr) (by omega) Hq.out
              · exact (hbx.trans (hb5.mono hbxs)).setCell (p := ⟨w1.heap.size, kx, none⟩) (Nat.le_refl _) _
            case measure => simp [intOf]; omega
          · have HX := hid (upB_all Hup.out (show len l ≤ kx by omega))
            have hbWs := hb1.size
            go_wp2_with (go_at_call 18; refine (form18 op _ _ _ _ _ _ _ _ _).mono ?_; rintro e w5 ⟨rfl, rfl⟩)
            go_ret
            have hk2 := box_below wr (.cells #[.int .i64 op, .pointer (some ⟨w.heap.size + 1, 0, none⟩), .slice none 0 0, .slice (some ⟨w1.heap.size, 0, none⟩) (len l) (len l), .bool sh] 79)
            have hk3 := Kept.of_below hk2 w.heap.size
            have hkx' := Kept.of_below hbx w.heap.size
            exact ⟨⟨_, rfl, ⟨_, (some ⟨w.heap.size + 1, 0, none⟩), none, 0, 0, some ⟨w1.heap.size, 0, none⟩, len l, sh, rfl, by omega, heap_alloc_new _ _, (Hsb.out.kept hkx').kept hk3, Hwf.out, ha0.symm, (by omega), hmx, ((RowTB.none w1 w.heap.size args ha0).kept hkx').kept hk3, w1.heap.size, cur', .inr ⟨rfl, by omega, hk3 _ _ _ (by omega) hrowx (.inr (.inr (.inr (.inr rfl))))⟩, HX.out.map (· = ·) (HdFB.kept (Kept.of_below hk2 _) (by omega)) (fun _ => rfl)⟩⟩, hb1.trans ((hbx.trans (hk2.mono hbxs)).mono (by omega))⟩
    · rcases xl with _ | ax
      · have hx0 : len l = 0 := by
          obtain ⟨_, _, h | h, _⟩ := hin.subX
          · exact h
          · cases h
        simp only [hx0] at hin ⊢
        have hb0 := box_below w (.cells #[.int .i64 op, .pointer (some ⟨pb, po, none⟩), .slice (some aa) (len args) cap, .slice none 0 xcap, .bool sh] 26)
        have hc' := (hb0.cell (p := ⟨pb, po, none⟩) hpb).trans hc
        have f1 : (w.alloc (.cells #[.int .i64 op, .pointer (some ⟨pb, po, none⟩), .slice (some aa) (len args) cap, .slice none 0 xcap, .bool sh] 26)).cell? ⟨w.heap.size, 1, none⟩ = some (.pointer (some ⟨pb, po, none⟩)) := by rw [World.cell?_alloc_at _ _ _ _ rfl]; rfl
        have hb1 := below2 w (.cells #[.int .i64 op, .pointer (some ⟨pb, po, none⟩), .slice (some aa) (len args) cap, .slice none 0 xcap, .bool sh] 26) (.cells #[.string nm, .slice none 0 0, .pointer none] 83)
        have Hsb := hid (show SymB ((w.alloc (.cells #[.int .i64 op, .pointer (some ⟨pb, po, none⟩), .slice (some aa) (len args) cap, .slice none 0 xcap, .bool sh] 26)).alloc (.cells #[.string nm, .slice none 0 0, .pointer none] 83)) w.heap.size (some ⟨w.heap.size + 1, 0, none⟩) (some nm) from .inr ⟨nm, _, rfl, rfl, by omega, by rw [show w.heap.size + 1 = (w.alloc (.cells #[.int .i64 op, .pointer (some ⟨pb, po, none⟩), .slice (some aa) (len args) cap, .slice none 0 xcap, .bool sh] 26)).heap.size by simp]; exact heap_alloc_new _ _, hnm⟩)
        have c0 : ((w.alloc (.cells #[.int .i64 op, .pointer (some ⟨pb, po, none⟩), .slice (some aa) (len args) cap, .slice none 0 xcap, .bool sh] 26)).alloc (.cells #[.string nm, .slice none 0 0, .pointer none] 83)).cell? ⟨w.heap.size, 0, none⟩ = some (.int .i64 op) := by rw [World.cell?_alloc_past _ _ _ (by simp), World.cell?_alloc_at _ _ _ _ rfl]; rfl
        have c2 : ((w.alloc (.cells #[.int .i64 op, .pointer (some ⟨pb, po, none⟩), .slice (some aa) (len args) cap, .slice none 0 xcap, .bool sh] 26)).alloc (.cells #[.string nm, .slice none 0 0, .pointer none] 83)).cell? ⟨w.heap.size, 2, none⟩ = some (.slice (some aa) (len args) cap) := by rw [World.cell?_alloc_past _ _ _ (by simp), World.cell?_alloc_at _ _ _ _ rfl]; rfl
        have c3 : ((w.alloc (.cells #[.int .i64 op, .pointer (some ⟨pb, po, none⟩), .slice (some aa) (len args) cap, .slice none 0 xcap, .bool sh] 26)).alloc (.cells #[.string nm, .slice none 0 0, .pointer none] 83)).cell? ⟨w.heap.size, 3, none⟩ = some (.slice none 0 xcap) := by rw [World.cell?_alloc_past _ _ _ (by simp), World.cell?_alloc_at _ _ _ _ rfl]; rfl
        have c4 : ((w.alloc (.cells #[.int .i64 op, .pointer (some ⟨pb, po, none⟩), .slice (some aa) (len args) cap, .slice none 0 xcap, .bool sh] 26)).alloc (.cells #[.string nm, .slice none 0 0, .pointer none] 83)).cell? ⟨w.heap.size, 4, none⟩ = some (.bool sh) := by rw [World.cell?_alloc_past _ _ _ (by simp), World.cell?_alloc_at _ _ _ _ rfl]; rfl
        have Hin := hid (hin.below hb1)
        have hs0 : ((w.alloc (.cells #[.int .i64 op, .pointer (some ⟨pb, po, none⟩), .slice (some aa) (len args) cap, .slice none 0 xcap, .bool sh] 26)).alloc (.cells #[.string nm, .slice none 0 0, .pointer none] 83)).heap.size = (w.heap.size + 1 + 1) := by simp
        have hs1 : w.heap.size < ((w.alloc (.cells #[.int .i64 op, .pointer (some ⟨pb, po, none⟩), .slice (some aa) (len args) cap, .slice none 0 xcap, .bool sh] 26)).alloc (.cells #[.string nm, .slice none 0 0, .pointer none] 83)).heap.size := by rw [hs0]; omega
        have hqa := fun w => run_neq_slice_nil_any (P := Tryd.prog) w 23 53 (some aa) (len args) cap 0 0 Tryd.underlying23
        have hqx := fun w => run_neq_slice_nil_any (P := Tryd.prog) w 24 26 none 0 xcap 0 0 Tryd.underlying24
        obtain ⟨i0, hi, hz0, hz1, hz2⟩ := info_parts infoP58
        obtain ⟨j0, hj, hy0, hy1, hy2⟩ := info_parts infoP37
        clear hin
        go_wp2_with (first | (go_at_call 16; refine (sym16 nm _).mono ?_; rintro e w5 ⟨rfl, rfl⟩) | (at_make; refine wpList_make_ptrs _ rfl _ _ 57 rfl i0 (.pointer none) Tryd.underlying57 hi hz0 hz1 rfl _ _ _ _ (len args) rfl rfl rfl rfl (by rw [hz2]; omega) (by unfold maxLen; omega) ?_; intro cur hcur))
        generalize ((w.alloc (.cells #[.int .i64 op, .pointer (some ⟨pb, po, none⟩), .slice (some aa) (len args) cap, .slice none 0 xcap, .bool sh] 26)).alloc (.cells #[.string nm, .slice none 0 0, .pointer none] 83)) = w1 at *
        generalize (w.heap.size + 1 + 1) = g0 at *
        subst hs0
        go_loopw [7] (fun v ws => ∃ (k : Nat) (cur : Array Value), k ≤ len args ∧ v = .int .i64 k ∧ ws.heap[w1.heap.size]? = some (.cells cur 58 (0, 0)) ∧ cur.size = len args ∧ Hid (upB (HdTB ws (w1.heap.size + 1)) args k cur) ∧ Below w1.heap.size w1 ws) (fun v _ => len args - (intOf v).toNat)
        case atStart => exact ⟨0, cur, Nat.zero_le _, rfl, heap_alloc_new _ _, hcur, upB_zero _ _ _, box_below _ _⟩
        case round =>
          clear hcur
          obtain ⟨k, cura, hk, rfl, hrow, hcura, Hup, hb⟩ := hrel
          have hbs := hb.size
          have c2r := (hb.cell (p := ⟨w.heap.size, 2, none⟩) hs1).trans c2
          have hgr : w1.heap.size < wr.heap.size := (Array.getElem?_eq_some_iff.1 hrow).1
          by_cases hlt : k < len args
          · obtain ⟨y, hy⟩ := toL_at hlt
            obtain ⟨b, o, p', sl', n', cap', rfl_, d0, d1, d2, hiny⟩ := (Hin.out.below hb).atA hy
            obtain rfl := Option.some.inj rfl_
            have Hy := hid hy
            have Hiny := hid hiny
            have Hrow := hid hrow
            clear hy hiny rfl_ hrow
            go_wp2_with (go_at_call 17; refine (build17 y _ _ _ _ _ Hiny.out (HsubA.out k y Hy.out)).mono ?_; rintro e w5 ⟨⟨q, rfl, hq⟩, hb5⟩
                         have hrow5 : w5.heap[w1.heap.size]? = some (.cells cura 58 (0, 0)) := (hb5.block _ hgr).trans Hrow.out
                         have hcell : w5.cell? ⟨w1.heap.size, k, none⟩ = some (cura[k]'(by omega)) := by simp [World.cell?, hrow5, hcura, hlt]
                         have hfz : w5.frozen? ⟨w1.heap.size, k, none⟩ = false := by simp [World.frozen?, hrow5]
                         have Hq := hid hq
                         clear hq)
            go_roundw
            case rel =>
              refine ⟨k + 1, _, by omega, by go_num, heap_setCell_same w5 w1.heap.size k cura 58 _ hrow5, by simpa using hcura, ?_, ?_⟩
              · refine upB_succ Hup.out (fun x g h => ?_) Hy.out (by omega) ?_
                · exact oneTB_kept ((Kept.of_below hb5 _).trans (Kept.store ⟨w1.heap.size, k, none⟩ _ (by show w1.heap.size < _; omega))) (Nat.le_refl _) h
                · exact oneTB_kept (Kept.store ⟨w1.heap.size, k, none⟩ _ hgr) (by omega) Hq.out
              · exact (hb.trans (hb5.mono hbs)).setCell (p := ⟨w1.heap.size, k, none⟩) (Nat.le_refl _) _
            case measure => simp [intOf]; omega
          · have HA := hid (upB_all Hup.out (show len args ≤ k by omega))
            have hb1s := hb1.size
            have hsW : w.heap.size < wr.heap.size := by omega
            have HR := hid (show RowTB wr w.heap.size (some ⟨w1.heap.size, 0, none⟩) (len args) args from ⟨w1.heap.size, cura, .inr ⟨rfl, by omega, hrow⟩, allTB_kept (Kept.refl _ _) (by omega) HA.out⟩)
            have HsW := hid (Hsb.out.kept (Kept.of_below hb _))
            have HinW := hid (Hin.out.below hb)
            have hbW : Below w.heap.size w wr := hb1.trans (hb.mono (by omega))
            have c0W := (hb.cell (p := ⟨w.heap.size, 0, none⟩) hs1).trans c0
            have c3W := (hb.cell (p := ⟨w.heap.size, 3, none⟩) hs1).trans c3
            have c4W := (hb.cell (p := ⟨w.heap.size, 4, none⟩) hs1).trans c4
            clear hrow hcura Hup HA c0 c2 c3 c4
            go_wp2_with (go_at_call 18; refine (form18 op _ _ _ _ none 0 0 _ _).mono ?_; rintro e w5 ⟨rfl, rfl⟩)
            go_ret
            have hkE := box_below wr (.cells #[.int .i64 op, .pointer (some ⟨w.heap.size + 1, 0, none⟩), .slice (some ⟨w1.heap.size, 0, none⟩) (len args) (len args), .slice none 0 0, .bool sh] 79)
            have hleE : w.heap.size ≤ wr.heap.size := by omega
            refine ⟨⟨_, rfl, ⟨_, (some ⟨w.heap.size + 1, 0, none⟩), some ⟨w1.heap.size, 0, none⟩, len args, len args, none, 0, sh, rfl, hleE, ?_, HsW.out.kept (Kept.of_below hkE _), Hwf.out, rfl, hma, hmx, HR.out.kept (Kept.of_below hkE _), 0, #[], .inl hx0, allFB_none _ _ _ hx0 _⟩⟩, hbW.trans (hkE.mono hleE)⟩
            rw [heap_alloc_new]
            simp only [hx0]
      · skip
        have hb0 := box_below w (.cells #[.int .i64 op, .pointer (some ⟨pb, po, none⟩), .slice (some aa) (len args) cap, .slice (some ax) (len l) xcap, .bool sh] 26)
        have hc' := (hb0.cell (p := ⟨pb, po, none⟩) hpb).trans hc
        have f1 : (w.alloc (.cells #[.int .i64 op, .pointer (some ⟨pb, po, none⟩), .slice (some aa) (len args) cap, .slice (some ax) (len l) xcap, .bool sh] 26)).cell? ⟨w.heap.size, 1, none⟩ = some (.pointer (some ⟨pb, po, none⟩)) := by rw [World.cell?_alloc_at _ _ _ _ rfl]; rfl
        have hb1 := below2 w (.cells #[.int .i64 op, .pointer (some ⟨pb, po, none⟩), .slice (some aa) (len args) cap, .slice (some ax) (len l) xcap, .bool sh] 26) (.cells #[.string nm, .slice none 0 0, .pointer none] 83)
        have Hsb := hid (show SymB ((w.alloc (.cells #[.int .i64 op, .pointer (some ⟨pb, po, none⟩), .slice (some aa) (len args) cap, .slice (some ax) (len l) xcap, .bool sh] 26)).alloc (.cells #[.string nm, .slice none 0 0, .pointer none] 83)) w.heap.size (some ⟨w.heap.size + 1, 0, none⟩) (some nm) from .inr ⟨nm, _, rfl, rfl, by omega, by rw [show w.heap.size + 1 = (w.alloc (.cells #[.int .i64 op, .pointer (some ⟨pb, po, none⟩), .slice (some aa) (len args) cap, .slice (some ax) (len l) xcap, .bool sh] 26)).heap.size by simp]; exact heap_alloc_new _ _, hnm⟩)
        have c0 : ((w.alloc (.cells #[.int .i64 op, .pointer (some ⟨pb, po, none⟩), .slice (some aa) (len args) cap, .slice (some ax) (len l) xcap, .bool sh] 26)).alloc (.cells #[.string nm, .slice none 0 0, .pointer none] 83)).cell? ⟨w.heap.size, 0, none⟩ = some (.int .i64 op) := by rw [World.cell?_alloc_past _ _ _ (by simp), World.cell?_alloc_at _ _ _ _ rfl]; rfl
        have c2 : ((w.alloc (.cells #[.int .i64 op, .pointer (some ⟨pb, po, none⟩), .slice (some aa) (len args) cap, .slice (some ax) (len l) xcap, .bool sh] 26)).alloc (.cells #[.string nm, .slice none 0 0, .pointer none] 83)).cell? ⟨w.heap.size, 2, none⟩ = some (.slice (some aa) (len args) cap) := by rw [World.cell?_alloc_past _ _ _ (by simp), World.cell?_alloc_at _ _ _ _ rfl]; rfl
        have c3 : ((w.alloc (.cells #[.int .i64 op, .pointer (some ⟨pb, po, none⟩), .slice (some aa) (len args) cap, .slice (some ax) (len l) xcap, .bool sh] 26)).alloc (.cells #[.string nm, .slice none 0 0, .pointer none] 83)).cell? ⟨w.heap.size, 3, none⟩ = some (.slice (some ax) (len l) xcap) := by rw [World.cell?_alloc_past _ _ _ (by simp), World.cell?_alloc_at _ _ _ _ rfl]; rfl
        have c4 : ((w.alloc (.cells #[.int .i64 op, .pointer (some ⟨pb, po, none⟩), .slice (some aa) (len args) cap, .slice (some ax) (len l) xcap, .bool sh] 26)).alloc (.cells #[.string nm, .slice none 0 0, .pointer none] 83)).cell? ⟨w.heap.size, 4, none⟩ = some (.bool sh) := by rw [World.cell?_alloc_past _ _ _ (by simp), World.cell?_alloc_at _ _ _ _ rfl]; rfl
        have Hin := hid (hin.below hb1)
        have hs0 : ((w.alloc (.cells #[.int .i64 op, .pointer (some ⟨pb, po, none⟩), .slice (some aa) (len args) cap, .slice (some ax) (len l) xcap, .bool sh] 26)).alloc (.cells #[.string nm, .slice none 0 0, .pointer none] 83)).heap.size = (w.heap.size + 1 + 1) := by simp
        have hs1 : w.heap.size < ((w.alloc (.cells #[.int .i64 op, .pointer (some ⟨pb, po, none⟩), .slice (some aa) (len args) cap, .slice (some ax) (len l) xcap, .bool sh] 26)).alloc (.cells #[.string nm, .slice none 0 0, .pointer none] 83)).heap.size := by rw [hs0]; omega
        have hqa := fun w => run_neq_slice_nil_any (P := Tryd.prog) w 23 53 (some aa) (len args) cap 0 0 Tryd.underlying23
        have hqx := fun w => run_neq_slice_nil_any (P := Tryd.prog) w 24 26 (some ax) (len l) xcap 0 0 Tryd.underlying24
        obtain ⟨i0, hi, hz0, hz1, hz2⟩ := info_parts infoP58
        obtain ⟨j0, hj, hy0, hy1, hy2⟩ := info_parts infoP37
        clear hin
        go_wp2_with (first | (go_at_call 16; refine (sym16 nm _).mono ?_; rintro e w5 ⟨rfl, rfl⟩) | (at_make; refine wpList_make_ptrs _ rfl _ _ 57 rfl i0 (.pointer none) Tryd.underlying57 hi hz0 hz1 rfl _ _ _ _ (len args) rfl rfl rfl rfl (by rw [hz2]; omega) (by unfold maxLen; omega) ?_; intro cur hcur))
        generalize ((w.alloc (.cells #[.int .i64 op, .pointer (some ⟨pb, po, none⟩), .slice (some aa) (len args) cap, .slice (some ax) (len l) xcap, .bool sh] 26)).alloc (.cells #[.string nm, .slice none 0 0, .pointer none] 83)) = w1 at *
        generalize (w.heap.size + 1 + 1) = g0 at *
        subst hs0
        go_loopw [7] (fun v ws => ∃ (k : Nat) (cur : Array Value), k ≤ len args ∧ v = .int .i64 k ∧ ws.heap[w1.heap.size]? = some (.cells cur 58 (0, 0)) ∧ cur.size = len args ∧ Hid (upB (HdTB ws (w1.heap.size + 1)) args k cur) ∧ Below w1.heap.size w1 ws) (fun v _ => len args - (intOf v).toNat)
        case atStart => exact ⟨0, cur, Nat.zero_le _, rfl, heap_alloc_new _ _, hcur, upB_zero _ _ _, box_below _ _⟩
        case round =>
          clear hcur
          obtain ⟨k, cura, hk, rfl, hrow, hcura, Hup, hb⟩ := hrel
          have hbs := hb.size
          have c2r := (hb.cell (p := ⟨w.heap.size, 2, none⟩) hs1).trans c2
          have hgr : w1.heap.size < wr.heap.size := (Array.getElem?_eq_some_iff.1 hrow).1
          by_cases hlt : k < len args
          · obtain ⟨y, hy⟩ := toL_at hlt
            obtain ⟨b, o, p', sl', n', cap', rfl_, d0, d1, d2, hiny⟩ := (Hin.out.below hb).atA hy
            obtain rfl := Option.some.inj rfl_
            have Hy := hid hy
            have Hiny := hid hiny
            have Hrow := hid hrow
            clear hy hiny rfl_ hrow
            go_wp2_with (go_at_call 17; refine (build17 y _ _ _ _ _ Hiny.out (HsubA.out k y Hy.out)).mono ?_; rintro e w5 ⟨⟨q, rfl, hq⟩, hb5⟩
                         have hrow5 : w5.heap[w1.heap.size]? = some (.cells cura 58 (0, 0)) := (hb5.block _ hgr).trans Hrow.out
                         have hcell : w5.cell? ⟨w1.heap.size, k, none⟩ = some (cura[k]'(by omega)) := by simp [World.cell?, hrow5, hcura, hlt]
                         have hfz : w5.frozen? ⟨w1.heap.size, k, none⟩ = false := by simp [World.frozen?, hrow5]
                         have Hq := hid hq
                         clear hq)
            go_roundw
            case rel =>
              refine ⟨k + 1, _, by omega, by go_num, heap_setCell_same w5 w1.heap.size k cura 58 _ hrow5, by simpa using hcura, ?_, ?_⟩
              · refine upB_succ Hup.out (fun x g h => ?_) Hy.out (by omega) ?_
                · exact oneTB_kept ((Kept.of_below hb5 _).trans (Kept.store ⟨w1.heap.size, k, none⟩ _ (by show w1.heap.size < _; omega))) (Nat.le_refl _) h
                · exact oneTB_kept (Kept.store ⟨w1.heap.size, k, none⟩ _ hgr) (by omega) Hq.out
              · exact (hb.trans (hb5.mono hbs)).setCell (p := ⟨w1.heap.size, k, none⟩) (Nat.le_refl _) _
            case measure => simp [intOf]; omega
          · have HA := hid (upB_all Hup.out (show len args ≤ k by omega))
            have hb1s := hb1.size
            have hsW : w.heap.size < wr.heap.size := by omega
            have HR := hid (show RowTB wr w.heap.size (some ⟨w1.heap.size, 0, none⟩) (len args) args from ⟨w1.heap.size, cura, .inr ⟨rfl, by omega, hrow⟩, allTB_kept (Kept.refl _ _) (by omega) HA.out⟩)
            have HsW := hid (Hsb.out.kept (Kept.of_below hb _))
            have HinW := hid (Hin.out.below hb)
            have hbW : Below w.heap.size w wr := hb1.trans (hb.mono (by omega))
            have c0W := (hb.cell (p := ⟨w.heap.size, 0, none⟩) hs1).trans c0
            have c3W := (hb.cell (p := ⟨w.heap.size, 3, none⟩) hs1).trans c3
            have c4W := (hb.cell (p := ⟨w.heap.size, 4, none⟩) hs1).trans c4
            clear hrow hcura Hup HA c0 c2 c3 c4
            go_wp2_with (at_make; refine wpList_make_ptrs _ rfl _ _ 60 rfl j0 (.pointer none) Tryd.underlying60 hj hy0 hy1 rfl _ _ _ _ (len l) rfl rfl rfl rfl (by rw [hy2]; omega) (by unfold maxLen; omega) ?_; intro curx hcurx)
            obtain ⟨wm, rfl⟩ : ∃ wm, wm = wr := ⟨_, rfl⟩
            go_loopw [9] (fun v ws => ∃ (k : Nat) (cur : Array Value), k ≤ len l ∧ v = .int .i64 k ∧ ws.heap[wm.heap.size]? = some (.cells cur 37 (0, 0)) ∧ cur.size = len l ∧ Hid (upB (HdFB ws (wm.heap.size + 1)) l k cur) ∧ Below wm.heap.size wm ws) (fun v _ => len l - (intOf v).toNat)
            case atStart => exact ⟨0, curx, Nat.zero_le _, rfl, heap_alloc_new _ _, hcurx, upB_zero _ _ _, box_below _ _⟩
            case round =>
              clear hcurx
              obtain ⟨kx, cur', hkx, rfl, hrowx, hcur', Hup, hbx⟩ := hrel
              have hbxs := hbx.size
              have e0 := (hbx.cell (p := ⟨w.heap.size, 0, none⟩) hsW).trans c0W
              have e3 := (hbx.cell (p := ⟨w.heap.size, 3, none⟩) hsW).trans c3W
              have e4 := (hbx.cell (p := ⟨w.heap.size, 4, none⟩) hsW).trans c4W
              have hgr : wm.heap.size < wr.heap.size := (Array.getElem?_eq_some_iff.1 hrowx).1
              by_cases hltx : kx < len l
              · obtain ⟨y, hy⟩ := toL_at hltx
                obtain ⟨b, o, p', sl', m', cap', xl', n', xcap', rfl_, d0, d1, d2, d3, d4, hiny⟩ := (HinW.out.below hbx).atX hy
                obtain rfl := Option.some.inj rfl_
                have Hy := hid hy
                have Hiny := hid hiny
                have Hrow := hid hrowx
                clear hy hiny rfl_ hrowx
                go_wp2_with (go_at_call 8; refine (Hi.out kx y Hy.out _ _ _ _ _ _ _ _ Hiny.out (Hsub.out kx y Hy.out)).mono ?_; rintro e w5 ⟨⟨q, rfl, hq⟩, hb5⟩
                             have hrow5 : w5.heap[wm.heap.size]? = some (.cells cur' 37 (0, 0)) := (hb5.block _ hgr).trans Hrow.out
                             have hcell : w5.cell? ⟨wm.heap.size, kx, none⟩ = some (cur'[kx]'(by omega)) := by simp [World.cell?, hrow5, hcur', hltx]
                             have hfz : w5.frozen? ⟨wm.heap.size, kx, none⟩ = false := by simp [World.frozen?, hrow5]
                             have Hq := hid hq
                             clear hq)
                go_roundw
                case rel =>
                  refine ⟨kx + 1, _, by omega, by go_num, heap_setCell_same w5 wm.heap.size kx cur' 37 _ hrow5, by simpa using hcur', ?_, ?_⟩
                  · refine upB_succ Hup.out (fun x g h => ?_) Hy.out (by omega) ?_
                    · exact oneFB_kept ((Kept.of_below hb5 _).trans (Kept.store ⟨wm.heap.size, kx, none⟩ _ (by show wm.heap.size < _; omega))) (Nat.le_refl _) h
                    · exact oneFB_kept (Kept.store ⟨wm.heap.size, kx, none⟩ _ hgr) (by omega) Hq.out
                  · exact (hbx.trans (hb5.mono hbxs)).setCell (p := ⟨wm.heap.size, kx, none⟩) (Nat.le_refl _) _
                case measure => simp [intOf]; omega
              · have HX := hid (upB_all Hup.out (show len l ≤ kx by omega))
                have hbWs := hbW.size
                go_wp2_with (go_at_call 18; refine (form18 op _ _ _ _ _ _ _ _ _).mono ?_; rintro e w5 ⟨rfl, rfl⟩)
                go_ret
                have hk2 := box_below wr (.cells #[.int .i64 op, .pointer (some ⟨w.heap.size + 1, 0, none⟩), .slice (some ⟨w1.heap.size, 0, none⟩) (len args) (len args), .slice (some ⟨wm.heap.size, 0, none⟩) (len l) (len l), .bool sh] 79)
                have hk3 := Kept.of_below hk2 w.heap.size
                have hkx' := Kept.of_below hbx w.heap.size
                exact ⟨⟨_, rfl, ⟨_, (some ⟨w.heap.size + 1, 0, none⟩), some ⟨w1.heap.size, 0, none⟩, len args, len args, some ⟨wm.heap.size, 0, none⟩, len l, sh, rfl, by omega, heap_alloc_new _ _, (HsW.out.kept hkx').kept hk3, Hwf.out, rfl, hma, hmx, (HR.out.kept hkx').kept hk3, wm.heap.size, cur', .inr ⟨rfl, by omega, hk3 _ _ _ (by omega) hrowx (.inr (.inr (.inr (.inr rfl))))⟩, HX.out.map (· = ·) (HdFB.kept (Kept.of_below hk2 _) (by omega)) (fun _ => rfl)⟩⟩, hbW.trans ((hbx.trans (hk2.mono hbxs)).mono (by omega))⟩

end Go.Proofs.Qxb6601988aDoor
