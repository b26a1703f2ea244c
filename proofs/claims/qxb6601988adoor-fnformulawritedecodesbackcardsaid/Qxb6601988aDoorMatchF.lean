/-
  zzFormMatchesHB1.
-/
import Derived.Test.Qxb6601988aDoorMatch
namespace Go.Proofs.Qxb6601988aDoor
open Go.RowKit Go.Sort
open Go.Deep (BT)

theorem oneE_below {w w' : World} (hb : Below w.heap.size w w') {x : F1} {g : Nat → Option Value} (h : One (HdE w any) x g) : One (HdE w' any) x g :=
  oneE_keep hb.size (fun b _ hbl => ⟨trivial, hb.block b hbl⟩) (keeps_refl _) h

/-- The row of the parsed arguments, of the parsed formulas. -/
theorem rowsE {w : World} {x : F1} {op : Int} {nm : ByteArray} {sl : Option Addr} {m cap : Nat} {xl : Option Addr} {n xcap : Nat} (h : One (HdE w any) x (ds [.int .i64 op, .string nm, .slice sl m cap, .slice xl n xcap])) :
    op = x.1.1 ∧ nm = nmB x.1.2.1 ∧ m = len x.1.2.2.2 ∧ n = len x.2 ∧ (0 < len x.1.2.2.2 → ∃ b, sl = some ⟨b, 0, none⟩ ∧ All (HdD w any) x.1.2.2.2 (row w b 0 4)) ∧ (0 < len x.2 → ∃ b, xl = some ⟨b, 0, none⟩ ∧ All (HdE w any) x.2 (row w b 0 4)) := by
  obtain ⟨sl', m', cap', xl', xcap', g0, g1, g2, g3, ⟨hm, hA⟩, hX⟩ := h
  simp only [ds, List.getElem?_cons_zero, List.getElem?_cons_succ, Option.some.injEq, Value.int.injEq, Value.string.injEq, Value.slice.injEq, true_and] at g0 g1 g2 g3
  obtain ⟨rfl, rfl, rfl⟩ := g2
  obtain ⟨rfl, rfl, rfl⟩ := g3
  refine ⟨g0, g1, hm, rfl, fun h0 => ?_, fun h0 => ?_⟩
  · rcases hA with h | ⟨b, h1, _, _, h2⟩
    · omega
    · exact ⟨b, h1, h2⟩
  · rcases hX with h | ⟨b, h1, _, _, h2⟩
    · omega
    · exact ⟨b, h1, h2⟩

set_option maxHeartbeats 2000000 in
set_option maxRecDepth 1000000 in
theorem match12 : ∀ x : F1, ∀ (w : World) (p sl : Option Addr) (m cap : Nat) (xl : Option Addr) (n xcap : Nat) (dop : Int) (dn : ByteArray) (dl : Option Addr) (dm dcap : Nat) (dx : Option Addr) (dxn dxcap : Nat), InF w x p sl m cap xl n xcap → One (HdE w any) x (ds [.int .i64 dop, .string dn, .slice dl dm dcap, .slice dx dxn dxcap]) →
    Calls Tryd.prog 12 #[.agg #[.int .i64 x.1.1, .pointer p, .slice sl m cap, .slice xl n xcap, .bool x.1.2.2.1], .agg #[.int .i64 dop, .string dn, .slice dl dm dcap, .slice dx dxn dxcap]] w fun e w' => e = .returned (.bool true) ∧ Below w.heap.size w w' := by
  apply ind_one
  rintro ⟨op, s, sh, args⟩ l ih w p sl m cap xl n xcap dop dn dl dm dcap dx dxn dxcap hin hd
  have hsym := hin.sym
  have hmaxA := hin.maxA
  have hmaxX := hin.maxX
  obtain rfl := hin.lenA
  obtain rfl := hin.lenX
  unfold maxLen at hmaxA hmaxX
  have Hi := hid ih
  have Hd := hid hd
  obtain ⟨h1, h2, h3, h4, _⟩ := rowsE hd
  obtain rfl : dop = op := h1
  obtain rfl : dm = len args := h3
  obtain rfl : dxn = len l := h4
  clear ih hd
  go_enter Tryd.func12, Tryd.ntmps12
  rcases hsym with ⟨rfl, hs⟩ | ⟨nm, pb, po, hs, rfl, hc, hnm⟩
  · obtain rfl : s = none := hs
    obtain rfl : dn = ⟨#[]⟩ := h2
    have hb2 := below2 w (.cells #[.int .i64 dop, .pointer none, .slice sl (len args) cap, .slice xl (len l) xcap, .bool sh] 26) (.cells #[.int .i64 dop, .string ⟨#[]⟩, .slice dl (len args) dcap, .slice dx (len l) dxcap] 45)
    go_wp2_with fail
    have f2 : ((w.alloc (.cells #[.int .i64 dop, .pointer none, .slice sl (len args) cap, .slice xl (len l) xcap, .bool sh] 26)).alloc (.cells #[.int .i64 dop, .string ⟨#[]⟩, .slice dl (len args) dcap, .slice dx (len l) dxcap] 45)).cell? ⟨w.heap.size, 2, none⟩ = some (.slice sl (len args) cap) := by rw [World.cell?_alloc_past _ _ _ (by simp), World.cell?_alloc_at _ _ _ _ rfl]; rfl
    have f3 : ((w.alloc (.cells #[.int .i64 dop, .pointer none, .slice sl (len args) cap, .slice xl (len l) xcap, .bool sh] 26)).alloc (.cells #[.int .i64 dop, .string ⟨#[]⟩, .slice dl (len args) dcap, .slice dx (len l) dxcap] 45)).cell? ⟨w.heap.size, 3, none⟩ = some (.slice xl (len l) xcap) := by rw [World.cell?_alloc_past _ _ _ (by simp), World.cell?_alloc_at _ _ _ _ rfl]; rfl
    have e2 : ((w.alloc (.cells #[.int .i64 dop, .pointer none, .slice sl (len args) cap, .slice xl (len l) xcap, .bool sh] 26)).alloc (.cells #[.int .i64 dop, .string ⟨#[]⟩, .slice dl (len args) dcap, .slice dx (len l) dxcap] 45)).cell? ⟨w.heap.size + 1, 2, none⟩ = some (.slice dl (len args) dcap) := by rw [World.cell?_alloc_at _ _ _ _ (by simp)]; rfl
    have e3 : ((w.alloc (.cells #[.int .i64 dop, .pointer none, .slice sl (len args) cap, .slice xl (len l) xcap, .bool sh] 26)).alloc (.cells #[.int .i64 dop, .string ⟨#[]⟩, .slice dl (len args) dcap, .slice dx (len l) dxcap] 45)).cell? ⟨w.heap.size + 1, 3, none⟩ = some (.slice dx (len l) dxcap) := by rw [World.cell?_alloc_at _ _ _ _ (by simp)]; rfl
    have Hin := hid (hin.below hb2)
    have Hd2 := hid (oneE_below hb2 Hd.out)
    have hs2 : ((w.alloc (.cells #[.int .i64 dop, .pointer none, .slice sl (len args) cap, .slice xl (len l) xcap, .bool sh] 26)).alloc (.cells #[.int .i64 dop, .string ⟨#[]⟩, .slice dl (len args) dcap, .slice dx (len l) dxcap] 45)).heap.size = w.heap.size + 1 + 1 := by simp
    have hlw : w.heap.size + 1 < ((w.alloc (.cells #[.int .i64 dop, .pointer none, .slice sl (len args) cap, .slice xl (len l) xcap, .bool sh] 26)).alloc (.cells #[.int .i64 dop, .string ⟨#[]⟩, .slice dl (len args) dcap, .slice dx (len l) dxcap] 45)).heap.size := by omega
    generalize ((w.alloc (.cells #[.int .i64 dop, .pointer none, .slice sl (len args) cap, .slice xl (len l) xcap, .bool sh] 26)).alloc (.cells #[.int .i64 dop, .string ⟨#[]⟩, .slice dl (len args) dcap, .slice dx (len l) dxcap] 45)) = w2 at *
    have Hs2 := hid hs2
    have hmix : Tryd.prog.follows .mixedOrders = true := by kernel_rfl
    clear hs2 hin Hd 
    go_loopw [6] (fun v ws => ∃ k : Nat, k ≤ len args ∧ v = .int .i64 k ∧ Below w2.heap.size w2 ws) (fun v _ => len args - (intOf v).toNat)
    case atStart => exact ⟨0, Nat.zero_le _, rfl, Below.refl _ _⟩
    case round =>
      obtain ⟨k, hk, rfl, hb⟩ := hrel
      have hbs := hb.size
      have F2 := (hb.cell (p := ⟨w.heap.size, 2, none⟩) (by show w.heap.size < _; omega)).trans f2
      have E2 := (hb.cell (p := ⟨w.heap.size + 1, 2, none⟩) (by show w.heap.size + 1 < _; omega)).trans e2
      by_cases hlt : k < len args
      · obtain ⟨y, hy⟩ := toL_at hlt
        have hInr := Hin.out.below hb
        obtain ⟨b, o, p', sl', n', cap', rfl, d0, d1, d2, hiny⟩ := hInr.atA hy
        have hrowA := (rowsE (oneE_below hb Hd2.out)).2.2.2.2.1
        obtain ⟨bb, hdl, hall⟩ := hrowA (show 0 < len args by omega)
        subst hdl
        obtain ⟨bv5, v5, nm5, sl5, m5, cap5, k0, k1, k2, k3, hcase5⟩ := hall.get hy
        have k0' : wr.cell? ⟨bb, k * 4, none⟩ = some (.bool bv5) := by simpa [row] using k0
        have k1' : wr.cell? ⟨bb, k * 4 + 1, none⟩ = some (.int .i64 v5) := by simpa [row] using k1
        have k2' : wr.cell? ⟨bb, k * 4 + 2, none⟩ = some (.string nm5) := by simpa [row] using k2
        have k3' : wr.cell? ⟨bb, k * 4 + 3, none⟩ = some (.slice sl5 m5 cap5) := by simpa [row] using k3
        have Hds := hid (show One (HdD wr any) y (ds [.bool bv5, .int .i64 v5, .string nm5, .slice sl5 m5 cap5]) from ⟨bv5, v5, nm5, sl5, m5, cap5, rfl, rfl, rfl, rfl, hcase5⟩)
        have Hiny := hid hiny
        clear hcase5 hall hInr k0 k1 k2 k3 hy hiny hrowA
        have F2r := cell_regrown F2
        have E2r := cell_regrown E2
        have d0r := cell_regrown d0
        have d1r := cell_regrown d1
        have d2r := cell_regrown d2
        have k0r := cell_regrown k0'
        have k1r := cell_regrown k1'
        have k2r := cell_regrown k2'
        have k3r := cell_regrown k3'
        have cQ : ∀ d os, Calls Tryd.prog 24 #[.agg #[.pointer p', .int .i64 y.1.2, .slice sl' n' cap'], .agg #[.bool bv5, .int .i64 v5, .string nm5, .slice sl5 m5 cap5]] (grow (redrawn wr d) os) fun e w'' => e = .returned (.bool true) ∧ ∃ p : Regrown, w'' = grow (redrawn wr p.d) p.os :=
          fun d os => Calls.regrown_of (match24 y _ _ _ _ _ _ _ _ _ _ _ (Hiny.out.below (below_regrown wr d os)) (oneD_below (below_regrown wr d os) Hds.out))
        go_wp2_with fail
        refine wp_region_quiet_below hmix (by kernel_rfl) ?_
        repeat (quiet_step (exact cQ _ _))
        refine wpQuiet_nil ?_
        intro _ hw'
        obtain ⟨⟨dq, osq⟩, hw''⟩ := hw'
        subst hw''
        have hq := below_regrown wr dq osq
        generalize grow (redrawn wr dq) osq = wq at *
        go_wp2_with fail
        go_roundw
        case rel => first | exact ⟨k + 1, hlt, by go_num, hb.trans (hq.mono hbs)⟩ | ((repeat apply Exists.intro); refine ⟨⟨k + 1, hlt, ?_, hb.trans (hq.mono hbs)⟩, rfl⟩; go_num)
        case measure => simp [intOf]; omega
      · go_wp2_with fail
        go_loopw [7] (fun v ws => ∃ k : Nat, k ≤ len l ∧ v = .int .i64 k ∧ Below w2.heap.size w2 ws) (fun v _ => len l - (intOf v).toNat)
        case atStart => exact ⟨0, Nat.zero_le _, rfl, hb⟩
        case round =>
          clear F2 E2 hbs hb hlt hk
          obtain ⟨k, hk, rfl, hb⟩ := hrel
          have hbs := hb.size
          have F3 := (hb.cell (p := ⟨w.heap.size, 3, none⟩) (by show w.heap.size < _; omega)).trans f3
          have E3 := (hb.cell (p := ⟨w.heap.size + 1, 3, none⟩) (by show w.heap.size + 1 < _; omega)).trans e3
          by_cases hlt : k < len l
          · obtain ⟨y, hy⟩ := toL_at hlt
            have hInr := Hin.out.below hb
            obtain ⟨b, o, p', sl', m', cap', xl', n', xcap', rfl, d0, d1, d2, d3, d4, hiny⟩ := hInr.atX hy
            have hrowX := (rowsE (oneE_below hb Hd2.out)).2.2.2.2.2
            obtain ⟨bb, hdl, hall⟩ := hrowX (show 0 < len l by omega)
            subst hdl
            obtain ⟨sl5, m5, cap5, xl5, xcap5, k0, k1, k2, k3, hrow5⟩ := hall.get hy
            have k0' : wr.cell? ⟨bb, k * 4, none⟩ = some (.int .i64 y.1.1) := by simpa [row] using k0
            have k1' : wr.cell? ⟨bb, k * 4 + 1, none⟩ = some (.string (nmB y.1.2.1)) := by simpa [row] using k1
            have k2' : wr.cell? ⟨bb, k * 4 + 2, none⟩ = some (.slice sl5 m5 cap5) := by simpa [row] using k2
            have k3' : wr.cell? ⟨bb, k * 4 + 3, none⟩ = some (.slice xl5 (len y.2) xcap5) := by simpa [row] using k3
            have Hds := hid (show One (HdE wr any) y (ds [.int .i64 y.1.1, .string (nmB y.1.2.1), .slice sl5 m5 cap5, .slice xl5 (len y.2) xcap5]) from ⟨sl5, m5, cap5, xl5, xcap5, rfl, rfl, rfl, rfl, hrow5⟩)
            have Hy := hid hy
            have Hiny := hid hiny
            clear hrow5 hall hInr k0 k1 k2 k3 hy hiny hrowX
            have F3r := cell_regrown F3
            have E3r := cell_regrown E3
            have d0r := cell_regrown d0
            have d1r := cell_regrown d1
            have d2r := cell_regrown d2
            have d3r := cell_regrown d3
            have d4r := cell_regrown d4
            have k0r := cell_regrown k0'
            have k1r := cell_regrown k1'
            have k2r := cell_regrown k2'
            have k3r := cell_regrown k3'
            have cQ : ∀ d os, Calls Tryd.prog 12 #[.agg #[.int .i64 y.1.1, .pointer p', .slice sl' m' cap', .slice xl' n' xcap', .bool y.1.2.2.1], .agg #[.int .i64 y.1.1, .string (nmB y.1.2.1), .slice sl5 m5 cap5, .slice xl5 (len y.2) xcap5]] (grow (redrawn wr d) os) fun e w'' => e = .returned (.bool true) ∧ ∃ p : Regrown, w'' = grow (redrawn wr p.d) p.os :=
              fun d os => Calls.regrown_of (Hi.out k y Hy.out _ _ _ _ _ _ _ _ _ _ _ _ _ _ _ _ (Hiny.out.below (below_regrown wr d os)) (oneE_below (below_regrown wr d os) Hds.out))
            go_wp2_with fail
            refine wp_region_quiet_below hmix (by kernel_rfl) ?_
            repeat (quiet_step (exact cQ _ _))
            refine wpQuiet_nil ?_
            intro _ hw'
            obtain ⟨⟨dq, osq⟩, hw''⟩ := hw'
            subst hw''
            have hq := below_regrown wr dq osq
            generalize grow (redrawn wr dq) osq = wq at *
            go_wp2_with fail
            go_roundw
            case rel => first | exact ⟨k + 1, hlt, by go_num, hb.trans (hq.mono hbs)⟩ | ((repeat apply Exists.intro); refine ⟨⟨k + 1, hlt, ?_, hb.trans (hq.mono hbs)⟩, rfl⟩; go_num)
            case measure => simp [intOf]; omega
          · go_wp2
            go_ret
            exact ⟨rfl, hb2.trans (hb.mono (by omega))⟩
  · obtain rfl : s = some nm := hs
    obtain rfl : dn = nm := h2
    have hb2 := below2 w (.cells #[.int .i64 dop, .pointer (some ⟨pb, po, none⟩), .slice sl (len args) cap, .slice xl (len l) xcap, .bool sh] 26) (.cells #[.int .i64 dop, .string dn, .slice dl (len args) dcap, .slice dx (len l) dxcap] 45)
    have hpb : pb < w.heap.size := World.block_lt_of_cell? _ _ hc
    have hc1 := ((box_below w (.cells #[.int .i64 dop, .pointer (some ⟨pb, po, none⟩), .slice sl (len args) cap, .slice xl (len l) xcap, .bool sh] 26)).cell (p := ⟨pb, po, none⟩) hpb).trans hc
    have hc' := (hb2.cell (p := ⟨pb, po, none⟩) hpb).trans hc
    go_wp2_with fail
    have f2 : ((w.alloc (.cells #[.int .i64 dop, .pointer (some ⟨pb, po, none⟩), .slice sl (len args) cap, .slice xl (len l) xcap, .bool sh] 26)).alloc (.cells #[.int .i64 dop, .string dn, .slice dl (len args) dcap, .slice dx (len l) dxcap] 45)).cell? ⟨w.heap.size, 2, none⟩ = some (.slice sl (len args) cap) := by rw [World.cell?_alloc_past _ _ _ (by simp), World.cell?_alloc_at _ _ _ _ rfl]; rfl
    have f3 : ((w.alloc (.cells #[.int .i64 dop, .pointer (some ⟨pb, po, none⟩), .slice sl (len args) cap, .slice xl (len l) xcap, .bool sh] 26)).alloc (.cells #[.int .i64 dop, .string dn, .slice dl (len args) dcap, .slice dx (len l) dxcap] 45)).cell? ⟨w.heap.size, 3, none⟩ = some (.slice xl (len l) xcap) := by rw [World.cell?_alloc_past _ _ _ (by simp), World.cell?_alloc_at _ _ _ _ rfl]; rfl
    have e2 : ((w.alloc (.cells #[.int .i64 dop, .pointer (some ⟨pb, po, none⟩), .slice sl (len args) cap, .slice xl (len l) xcap, .bool sh] 26)).alloc (.cells #[.int .i64 dop, .string dn, .slice dl (len args) dcap, .slice dx (len l) dxcap] 45)).cell? ⟨w.heap.size + 1, 2, none⟩ = some (.slice dl (len args) dcap) := by rw [World.cell?_alloc_at _ _ _ _ (by simp)]; rfl
    have e3 : ((w.alloc (.cells #[.int .i64 dop, .pointer (some ⟨pb, po, none⟩), .slice sl (len args) cap, .slice xl (len l) xcap, .bool sh] 26)).alloc (.cells #[.int .i64 dop, .string dn, .slice dl (len args) dcap, .slice dx (len l) dxcap] 45)).cell? ⟨w.heap.size + 1, 3, none⟩ = some (.slice dx (len l) dxcap) := by rw [World.cell?_alloc_at _ _ _ _ (by simp)]; rfl
    have Hin := hid (hin.below hb2)
    have Hd2 := hid (oneE_below hb2 Hd.out)
    have hs2 : ((w.alloc (.cells #[.int .i64 dop, .pointer (some ⟨pb, po, none⟩), .slice sl (len args) cap, .slice xl (len l) xcap, .bool sh] 26)).alloc (.cells #[.int .i64 dop, .string dn, .slice dl (len args) dcap, .slice dx (len l) dxcap] 45)).heap.size = w.heap.size + 1 + 1 := by simp
    have hlw : w.heap.size + 1 < ((w.alloc (.cells #[.int .i64 dop, .pointer (some ⟨pb, po, none⟩), .slice sl (len args) cap, .slice xl (len l) xcap, .bool sh] 26)).alloc (.cells #[.int .i64 dop, .string dn, .slice dl (len args) dcap, .slice dx (len l) dxcap] 45)).heap.size := by omega
    generalize ((w.alloc (.cells #[.int .i64 dop, .pointer (some ⟨pb, po, none⟩), .slice sl (len args) cap, .slice xl (len l) xcap, .bool sh] 26)).alloc (.cells #[.int .i64 dop, .string dn, .slice dl (len args) dcap, .slice dx (len l) dxcap] 45)) = w2 at *
    have Hs2 := hid hs2
    have hmix : Tryd.prog.follows .mixedOrders = true := by kernel_rfl
    clear hs2 hin Hd hc hc' hc1
    go_loopw [6] (fun v ws => ∃ k : Nat, k ≤ len args ∧ v = .int .i64 k ∧ Below w2.heap.size w2 ws) (fun v _ => len args - (intOf v).toNat)
    case atStart => exact ⟨0, Nat.zero_le _, rfl, Below.refl _ _⟩
    case round =>
      obtain ⟨k, hk, rfl, hb⟩ := hrel
      have hbs := hb.size
      have F2 := (hb.cell (p := ⟨w.heap.size, 2, none⟩) (by show w.heap.size < _; omega)).trans f2
      have E2 := (hb.cell (p := ⟨w.heap.size + 1, 2, none⟩) (by show w.heap.size + 1 < _; omega)).trans e2
      by_cases hlt : k < len args
      · obtain ⟨y, hy⟩ := toL_at hlt
        have hInr := Hin.out.below hb
        obtain ⟨b, o, p', sl', n', cap', rfl, d0, d1, d2, hiny⟩ := hInr.atA hy
        have hrowA := (rowsE (oneE_below hb Hd2.out)).2.2.2.2.1
        obtain ⟨bb, hdl, hall⟩ := hrowA (show 0 < len args by omega)
        subst hdl
        obtain ⟨bv5, v5, nm5, sl5, m5, cap5, k0, k1, k2, k3, hcase5⟩ := hall.get hy
        have k0' : wr.cell? ⟨bb, k * 4, none⟩ = some (.bool bv5) := by simpa [row] using k0
        have k1' : wr.cell? ⟨bb, k * 4 + 1, none⟩ = some (.int .i64 v5) := by simpa [row] using k1
        have k2' : wr.cell? ⟨bb, k * 4 + 2, none⟩ = some (.string nm5) := by simpa [row] using k2
        have k3' : wr.cell? ⟨bb, k * 4 + 3, none⟩ = some (.slice sl5 m5 cap5) := by simpa [row] using k3
        have Hds := hid (show One (HdD wr any) y (ds [.bool bv5, .int .i64 v5, .string nm5, .slice sl5 m5 cap5]) from ⟨bv5, v5, nm5, sl5, m5, cap5, rfl, rfl, rfl, rfl, hcase5⟩)
        have Hiny := hid hiny
        clear hcase5 hall hInr k0 k1 k2 k3 hy hiny hrowA
        have F2r := cell_regrown F2
        have E2r := cell_regrown E2
        have d0r := cell_regrown d0
        have d1r := cell_regrown d1
        have d2r := cell_regrown d2
        have k0r := cell_regrown k0'
        have k1r := cell_regrown k1'
        have k2r := cell_regrown k2'
        have k3r := cell_regrown k3'
        have cQ : ∀ d os, Calls Tryd.prog 24 #[.agg #[.pointer p', .int .i64 y.1.2, .slice sl' n' cap'], .agg #[.bool bv5, .int .i64 v5, .string nm5, .slice sl5 m5 cap5]] (grow (redrawn wr d) os) fun e w'' => e = .returned (.bool true) ∧ ∃ p : Regrown, w'' = grow (redrawn wr p.d) p.os :=
          fun d os => Calls.regrown_of (match24 y _ _ _ _ _ _ _ _ _ _ _ (Hiny.out.below (below_regrown wr d os)) (oneD_below (below_regrown wr d os) Hds.out))
        go_wp2_with fail
        refine wp_region_quiet_below hmix (by kernel_rfl) ?_
        repeat (quiet_step (exact cQ _ _))
        refine wpQuiet_nil ?_
        intro _ hw'
        obtain ⟨⟨dq, osq⟩, hw''⟩ := hw'
        subst hw''
        have hq := below_regrown wr dq osq
        generalize grow (redrawn wr dq) osq = wq at *
        go_wp2_with fail
        go_roundw
        case rel => first | exact ⟨k + 1, hlt, by go_num, hb.trans (hq.mono hbs)⟩ | ((repeat apply Exists.intro); refine ⟨⟨k + 1, hlt, ?_, hb.trans (hq.mono hbs)⟩, rfl⟩; go_num)
        case measure => simp [intOf]; omega
      · go_wp2_with fail
        go_loopw [7] (fun v ws => ∃ k : Nat, k ≤ len l ∧ v = .int .i64 k ∧ Below w2.heap.size w2 ws) (fun v _ => len l - (intOf v).toNat)
        case atStart => exact ⟨0, Nat.zero_le _, rfl, hb⟩
        case round =>
          clear F2 E2 hbs hb hlt hk
          obtain ⟨k, hk, rfl, hb⟩ := hrel
          have hbs := hb.size
          have F3 := (hb.cell (p := ⟨w.heap.size, 3, none⟩) (by show w.heap.size < _; omega)).trans f3
          have E3 := (hb.cell (p := ⟨w.heap.size + 1, 3, none⟩) (by show w.heap.size + 1 < _; omega)).trans e3
          by_cases hlt : k < len l
          · obtain ⟨y, hy⟩ := toL_at hlt
            have hInr := Hin.out.below hb
            obtain ⟨b, o, p', sl', m', cap', xl', n', xcap', rfl, d0, d1, d2, d3, d4, hiny⟩ := hInr.atX hy
            have hrowX := (rowsE (oneE_below hb Hd2.out)).2.2.2.2.2
            obtain ⟨bb, hdl, hall⟩ := hrowX (show 0 < len l by omega)
            subst hdl
            obtain ⟨sl5, m5, cap5, xl5, xcap5, k0, k1, k2, k3, hrow5⟩ := hall.get hy
            have k0' : wr.cell? ⟨bb, k * 4, none⟩ = some (.int .i64 y.1.1) := by simpa [row] using k0
            have k1' : wr.cell? ⟨bb, k * 4 + 1, none⟩ = some (.string (nmB y.1.2.1)) := by simpa [row] using k1
            have k2' : wr.cell? ⟨bb, k * 4 + 2, none⟩ = some (.slice sl5 m5 cap5) := by simpa [row] using k2
            have k3' : wr.cell? ⟨bb, k * 4 + 3, none⟩ = some (.slice xl5 (len y.2) xcap5) := by simpa [row] using k3
            have Hds := hid (show One (HdE wr any) y (ds [.int .i64 y.1.1, .string (nmB y.1.2.1), .slice sl5 m5 cap5, .slice xl5 (len y.2) xcap5]) from ⟨sl5, m5, cap5, xl5, xcap5, rfl, rfl, rfl, rfl, hrow5⟩)
            have Hy := hid hy
            have Hiny := hid hiny
            clear hrow5 hall hInr k0 k1 k2 k3 hy hiny hrowX
            have F3r := cell_regrown F3
            have E3r := cell_regrown E3
            have d0r := cell_regrown d0
            have d1r := cell_regrown d1
            have d2r := cell_regrown d2
            have d3r := cell_regrown d3
            have d4r := cell_regrown d4
            have k0r := cell_regrown k0'
            have k1r := cell_regrown k1'
            have k2r := cell_regrown k2'
            have k3r := cell_regrown k3'
            have cQ : ∀ d os, Calls Tryd.prog 12 #[.agg #[.int .i64 y.1.1, .pointer p', .slice sl' m' cap', .slice xl' n' xcap', .bool y.1.2.2.1], .agg #[.int .i64 y.1.1, .string (nmB y.1.2.1), .slice sl5 m5 cap5, .slice xl5 (len y.2) xcap5]] (grow (redrawn wr d) os) fun e w'' => e = .returned (.bool true) ∧ ∃ p : Regrown, w'' = grow (redrawn wr p.d) p.os :=
              fun d os => Calls.regrown_of (Hi.out k y Hy.out _ _ _ _ _ _ _ _ _ _ _ _ _ _ _ _ (Hiny.out.below (below_regrown wr d os)) (oneE_below (below_regrown wr d os) Hds.out))
            go_wp2_with fail
            refine wp_region_quiet_below hmix (by kernel_rfl) ?_
            repeat (quiet_step (exact cQ _ _))
            refine wpQuiet_nil ?_
            intro _ hw'
            obtain ⟨⟨dq, osq⟩, hw''⟩ := hw'
            subst hw''
            have hq := below_regrown wr dq osq
            generalize grow (redrawn wr dq) osq = wq at *
            go_wp2_with fail
            go_roundw
            case rel => first | exact ⟨k + 1, hlt, by go_num, hb.trans (hq.mono hbs)⟩ | ((repeat apply Exists.intro); refine ⟨⟨k + 1, hlt, ?_, hb.trans (hq.mono hbs)⟩, rfl⟩; go_num)
            case measure => simp [intOf]; omega
          · go_wp2
            go_ret
            exact ⟨rfl, hb2.trans (hb.mono (by omega))⟩

end Go.Proofs.Qxb6601988aDoor
