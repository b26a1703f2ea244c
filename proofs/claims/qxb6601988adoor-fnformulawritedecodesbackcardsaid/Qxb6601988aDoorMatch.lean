/-
  zzTermMatchesHB1.
-/
import Derived.Test.Qxb6601988aDoorParseF
import Derived.Lib.QuietBelow
import Derived.Deep.QuietTactic
import Derived.BigQuiet
namespace Go.Proofs.Qxb6601988aDoor
open Go.RowKit Go.Sort
open Go.Deep (BT)

/-- Nothing is asked of the blocks' places. -/
abbrev any : Nat → Prop := fun _ => True

theorem oneD_below {w w' : World} (hb : Below w.heap.size w w') {x : T1} {g : Nat → Option Value} (h : One (HdD w any) x g) : One (HdD w' any) x g :=
  oneD_keep hb.size (fun b _ hbl => ⟨trivial, hb.block b hbl⟩) (keeps_refl _) h

set_option maxHeartbeats 1000000 in
set_option maxRecDepth 100000 in
theorem match24 : ∀ x : T1, ∀ (w : World) (p sl : Option Addr) (n cap : Nat) (bv : Bool) (dv : Int) (dn : ByteArray) (dl : Option Addr) (dm dcap : Nat), InT w x p sl n cap → One (HdD w any) x (ds [.bool bv, .int .i64 dv, .string dn, .slice dl dm dcap]) →
    Calls Tryd.prog 24 #[.agg #[.pointer p, .int .i64 x.1.2, .slice sl n cap], .agg #[.bool bv, .int .i64 dv, .string dn, .slice dl dm dcap]] w fun e w' => e = .returned (.bool true) ∧ Below w.heap.size w w' := by
  apply ind_one
  rintro ⟨s, v⟩ l ih w p sl n cap bv dv dn dl dm dcap hin hd
  have hsym := hin.sym
  have hmax := hin.max
  obtain rfl := hin.len
  unfold maxLen at hmax
  have Hi := hid ih
  have Hd := hid hd
  obtain ⟨bv', v', nm', sl', m', cap', g0, g1, g2, g3, hcase⟩ := hd
  simp only [ds, List.getElem?_cons_zero, List.getElem?_cons_succ, Option.some.injEq, Value.bool.injEq, Value.int.injEq, Value.string.injEq, Value.slice.injEq, true_and] at g0 g1 g2 g3
  subst g0 g1 g2
  obtain ⟨rfl, rfl, rfl⟩ := g3
  clear ih
  go_enter Tryd.func24, Tryd.ntmps24
  rcases hsym with ⟨rfl, hs⟩ | ⟨nm, pb, po, hs, rfl, hc, hnm⟩
  · obtain rfl : s = none := hs
    rcases hcase with ⟨_, rfl, hv⟩ | ⟨h, _⟩
    · obtain rfl : dv = v := hv
      go_wp2_with fail
      go_ret
      exact ⟨rfl, below2 _ _ _⟩
    · cases h
  · obtain rfl : s = some nm := hs
    rcases hcase with ⟨h, _⟩ | ⟨h, rfl, hm, hrow⟩
    · cases h
    · obtain rfl : nm = dn := Option.some.inj h
      obtain rfl : dm = len l := hm
      have hpb : pb < w.heap.size := World.block_lt_of_cell? _ _ hc
      have hb2 := below2 w (.cells #[.pointer (some ⟨pb, po, none⟩), .int .i64 v, .slice sl (len l) cap] 53) (.cells #[.bool false, .int .i64 dv, .string nm, .slice dl (len l) dcap] 70)
      have hc' := (hb2.cell (p := ⟨pb, po, none⟩) hpb).trans hc
      go_wp2_with fail
      have f0 : ((w.alloc (.cells #[.pointer (some ⟨pb, po, none⟩), .int .i64 v, .slice sl (len l) cap] 53)).alloc (.cells #[.bool false, .int .i64 dv, .string nm, .slice dl (len l) dcap] 70)).cell? ⟨w.heap.size, 0, none⟩ = some (.pointer (some ⟨pb, po, none⟩)) := by rw [World.cell?_alloc_past _ _ _ (by simp), World.cell?_alloc_at _ _ _ _ rfl]; rfl
      have f2 : ((w.alloc (.cells #[.pointer (some ⟨pb, po, none⟩), .int .i64 v, .slice sl (len l) cap] 53)).alloc (.cells #[.bool false, .int .i64 dv, .string nm, .slice dl (len l) dcap] 70)).cell? ⟨w.heap.size, 2, none⟩ = some (.slice sl (len l) cap) := by rw [World.cell?_alloc_past _ _ _ (by simp), World.cell?_alloc_at _ _ _ _ rfl]; rfl
      have e0 : ((w.alloc (.cells #[.pointer (some ⟨pb, po, none⟩), .int .i64 v, .slice sl (len l) cap] 53)).alloc (.cells #[.bool false, .int .i64 dv, .string nm, .slice dl (len l) dcap] 70)).cell? ⟨w.heap.size + 1, 0, none⟩ = some (.bool false) := by rw [World.cell?_alloc_at _ _ _ _ (by simp)]; rfl
      have e2 : ((w.alloc (.cells #[.pointer (some ⟨pb, po, none⟩), .int .i64 v, .slice sl (len l) cap] 53)).alloc (.cells #[.bool false, .int .i64 dv, .string nm, .slice dl (len l) dcap] 70)).cell? ⟨w.heap.size + 1, 2, none⟩ = some (.string nm) := by rw [World.cell?_alloc_at _ _ _ _ (by simp)]; rfl
      have e3 : ((w.alloc (.cells #[.pointer (some ⟨pb, po, none⟩), .int .i64 v, .slice sl (len l) cap] 53)).alloc (.cells #[.bool false, .int .i64 dv, .string nm, .slice dl (len l) dcap] 70)).cell? ⟨w.heap.size + 1, 3, none⟩ = some (.slice dl (len l) dcap) := by rw [World.cell?_alloc_at _ _ _ _ (by simp)]; rfl
      have Hin := hid (hin.below hb2)
      have Hd2 := hid (oneD_below hb2 Hd.out)
      have hs2 : ((w.alloc (.cells #[.pointer (some ⟨pb, po, none⟩), .int .i64 v, .slice sl (len l) cap] 53)).alloc (.cells #[.bool false, .int .i64 dv, .string nm, .slice dl (len l) dcap] 70)).heap.size = w.heap.size + 1 + 1 := by simp
      have hlw : w.heap.size + 1 < ((w.alloc (.cells #[.pointer (some ⟨pb, po, none⟩), .int .i64 v, .slice sl (len l) cap] 53)).alloc (.cells #[.bool false, .int .i64 dv, .string nm, .slice dl (len l) dcap] 70)).heap.size := by omega
      generalize ((w.alloc (.cells #[.pointer (some ⟨pb, po, none⟩), .int .i64 v, .slice sl (len l) cap] 53)).alloc (.cells #[.bool false, .int .i64 dv, .string nm, .slice dl (len l) dcap] 70)) = w2 at *
      have Hs2 := hid hs2
      clear hs2 hin hc hrow Hd
      go_quiet (fail)
      go_wp2_with fail
      go_loopw [5] (fun v ws => ∃ k : Nat, k ≤ len l ∧ v = .int .i64 k ∧ Below w2.heap.size w2 ws) (fun v _ => len l - (intOf v).toNat)
      case atStart => exact ⟨0, Nat.zero_le _, rfl, below_drewN (Below.refl _ _) _⟩
      case round =>
        obtain ⟨k, hk, rfl, hb⟩ := hrel
        have hbs := hb.size
        have F2 := (hb.cell (p := ⟨w.heap.size, 2, none⟩) (by show w.heap.size < _; omega)).trans f2
        have E3 := (hb.cell (p := ⟨w.heap.size + 1, 3, none⟩) (by show w.heap.size + 1 < _; omega)).trans e3
        by_cases hlt : k < len l
        · obtain ⟨y, hy⟩ := toL_at hlt
          have hInr := Hin.out.below hb
          obtain ⟨b, o, p', sl', n', cap', rfl, d0, d1, d2, hiny⟩ := hInr.at hy
          obtain ⟨bb, hdl, hbl, hall⟩ : ∃ bb, dl = some ⟨bb, 0, none⟩ ∧ bb < wr.heap.size ∧ All (HdD wr any) l (row wr bb 0 4) := by
            obtain ⟨_, _, _, _, _, _, _, _, _, g3, hcase⟩ := oneD_below hb Hd2.out
            simp only [ds, List.getElem?_cons_zero, List.getElem?_cons_succ, Option.some.injEq, Value.slice.injEq] at g3
            obtain ⟨rfl, _, _⟩ := g3
            rcases hcase with ⟨h, _⟩ | ⟨_, _, _, h | ⟨bb, h1, _, h2, h3⟩⟩
            · cases h
            · have h' : len l = 0 := h
              omega
            · exact ⟨bb, h1, h2, h3⟩
          subst hdl
          obtain ⟨bv5, v5, nm5, sl5, m5, cap5, k0, k1, k2, k3, hcase5⟩ := hall.get hy
          have k0' : wr.cell? ⟨bb, k * 4, none⟩ = some (.bool bv5) := by simpa [row] using k0
          have k1' : wr.cell? ⟨bb, k * 4 + 1, none⟩ = some (.int .i64 v5) := by simpa [row] using k1
          have k2' : wr.cell? ⟨bb, k * 4 + 2, none⟩ = some (.string nm5) := by simpa [row] using k2
          have k3' : wr.cell? ⟨bb, k * 4 + 3, none⟩ = some (.slice sl5 m5 cap5) := by simpa [row] using k3
          have Hds := hid (show One (HdD wr any) y (ds [.bool bv5, .int .i64 v5, .string nm5, .slice sl5 m5 cap5]) from ⟨bv5, v5, nm5, sl5, m5, cap5, rfl, rfl, rfl, rfl, hcase5⟩)
          have Hy := hid hy
          have Hiny := hid hiny
          clear hcase5 hall hInr k0 k1 k2 k3 hy hiny
          have F2r := cell_regrown F2
          have E3r := cell_regrown E3
          have d0r := cell_regrown d0
          have d1r := cell_regrown d1
          have d2r := cell_regrown d2
          have k0r := cell_regrown k0'
          have k1r := cell_regrown k1'
          have k2r := cell_regrown k2'
          have k3r := cell_regrown k3'
          have hmix : Tryd.prog.follows .mixedOrders = true := by kernel_rfl
          have cQ : ∀ d os, Calls Tryd.prog 24 #[.agg #[.pointer p', .int .i64 y.1.2, .slice sl' n' cap'], .agg #[.bool bv5, .int .i64 v5, .string nm5, .slice sl5 m5 cap5]] (grow (redrawn wr d) os) fun e w'' => e = .returned (.bool true) ∧ ∃ p : Regrown, w'' = grow (redrawn wr p.d) p.os :=
            fun d os => Calls.regrown_of (Hi.out k y Hy.out _ _ _ _ _ _ _ _ _ _ _ (Hiny.out.below (below_regrown wr d os)) (oneD_below (below_regrown wr d os) Hds.out))
          go_wp2_with fail
          refine wp_region_quiet_below hmix (by kernel_rfl) ?_
          repeat (quiet_step (exact cQ _ _))
          refine wpQuiet_nil ?_
          intro _ hw'
          obtain ⟨⟨dq, osq⟩, hw''⟩ := hw'
          subst hw''
          have hq := below_regrown wr dq osq
          generalize grow (redrawn wr dq) osq = wq at *
          go_wp2_with fail
          go_roundw
          case rel => exact ⟨k + 1, hlt, by go_num, hb.trans (hq.mono hbs)⟩
          case measure => simp [intOf]; omega
        · go_wp2
          go_ret
          exact ⟨rfl, hb2.trans (hb.mono (by omega))⟩

end Go.Proofs.Qxb6601988aDoor
