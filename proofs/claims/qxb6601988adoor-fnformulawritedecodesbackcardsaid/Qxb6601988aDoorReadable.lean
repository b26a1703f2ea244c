/-
  zzTermNamesReadableHB1, zzFormNamesReadableHB1.
-/
import Derived.Test.Qxb6601988aDoorNames
namespace Go.Proofs.Qxb6601988aDoor
open Go.RowKit
open Go.Deep (BT)

def okUpT (t : TL) (k : Nat) : Prop := ∀ (i : Nat) x, i < k → (toL t)[i]? = some x → ok1 x
theorem okUpT_zero (t : TL) : okUpT t 0 := fun i x h => by omega
theorem okUpT_succ {t : TL} {k : Nat} {y : T1} (h : okUpT t k) (hy : (toL t)[k]? = some y) (hk : ok1 y) : okUpT t (k + 1) := fun i x hi hx => by
  rcases Nat.lt_or_ge i k with h' | h'
  · exact h i x h' hx
  · obtain rfl : i = k := by omega
    rw [hy] at hx
    obtain rfl := Option.some.inj hx
    exact hk
theorem okUpT_all {t : TL} {k : Nat} (h : okUpT t k) (hk : len t ≤ k) : okT t := (okT_iff t).2 fun i x hx => h i x (by have := toL_lt hx; omega) hx

def okUpF (t : FL) (k : Nat) : Prop := ∀ (i : Nat) x, i < k → (toL t)[i]? = some x → okF1 x
theorem okUpF_zero (t : FL) : okUpF t 0 := fun i x h => by omega
theorem okUpF_succ {t : FL} {k : Nat} {y : F1} (h : okUpF t k) (hy : (toL t)[k]? = some y) (hk : okF1 y) : okUpF t (k + 1) := fun i x hi hx => by
  rcases Nat.lt_or_ge i k with h' | h'
  · exact h i x h' hx
  · obtain rfl : i = k := by omega
    rw [hy] at hx
    obtain rfl := Option.some.inj hx
    exact hk
theorem okUpF_all {t : FL} {k : Nat} (h : okUpF t k) (hk : len t ≤ k) : okF t := (okF_iff t).2 fun i x hx => h i x (by have := toL_lt hx; omega) hx

set_option maxHeartbeats 400000 in
set_option maxRecDepth 100000 in
theorem names20 : ∀ x : T1, ∀ (w : World) (p sl : Option Addr) (n cap : Nat), InT w x p sl n cap →
    Calls Tryd.prog 20 #[.agg #[.pointer p, .int .i64 x.1.2, .slice sl n cap]] w fun e w' => Told (ok1 x) e ∧ Below w.heap.size w w' := by
  apply ind_one
  rintro ⟨s, v⟩ l ih w p sl n cap hin
  have hsym := hin.sym
  have hmax := hin.max
  obtain rfl := hin.len
  unfold maxLen at hmax
  have Hi := hid ih
  clear ih
  go_enter Tryd.func20, Tryd.ntmps20
  rcases hsym with ⟨rfl, hs⟩ | ⟨nm, pb, po, hs, rfl, hc, hnm⟩
  · obtain rfl : s = none := hs
    go_wp2_with fail
    go_ret
    exact ⟨Told.yes (fun nm h => by cases h), box_below _ _⟩
  · obtain rfl : s = some nm := hs
    unfold maxLen at hnm
    have hpb : pb < w.heap.size := World.block_lt_of_cell? _ _ hc
    have hb1 := box_below w (.cells #[.pointer (some ⟨pb, po, none⟩), .int .i64 v, .slice sl (len l) cap] 53)
    have hc' := (hb1.cell (p := ⟨pb, po, none⟩) hpb).trans hc
    have c0 : (w.alloc (.cells #[.pointer (some ⟨pb, po, none⟩), .int .i64 v, .slice sl (len l) cap] 53)).cell? ⟨w.heap.size, 0, none⟩ = some (.pointer (some ⟨pb, po, none⟩)) := by rw [World.cell?_alloc_at _ _ _ _ rfl]; rfl
    have c2 : (w.alloc (.cells #[.pointer (some ⟨pb, po, none⟩), .int .i64 v, .slice sl (len l) cap] 53)).cell? ⟨w.heap.size, 2, none⟩ = some (.slice sl (len l) cap) := by rw [World.cell?_alloc_at _ _ _ _ rfl]; rfl
    have Hin := hid (hin.below hb1)
    have hs1 : (w.alloc (.cells #[.pointer (some ⟨pb, po, none⟩), .int .i64 v, .slice sl (len l) cap] 53)).heap.size = w.heap.size + 1 := by simp
    clear hin hc
    go_wp2_with (go_at_call 31; refine (nameT31 nm _ (by omega)).mono ?_; rintro e w5 ⟨⟨r, rfl, hr⟩, rfl⟩; have Hr := hid hr; clear hr; cases r)
    · go_ret
      exact ⟨Told.no _, hb1⟩
    · generalize (w.alloc (.cells #[.pointer (some ⟨pb, po, none⟩), .int .i64 v, .slice sl (len l) cap] 53)) = w1 at *
      clear c0 hc'
      go_loopw [3] (fun v ws => ∃ (k : Nat), k ≤ len l ∧ v = .int .i64 k ∧ Hid (okUpT l k) ∧ Below w1.heap.size w1 ws) (fun v _ => len l - (intOf v).toNat)
      case atStart => exact ⟨0, Nat.zero_le _, rfl, okUpT_zero l, Below.refl _ _⟩
      case round =>
        obtain ⟨k, hk, rfl, Hok, hb⟩ := hrel
        have hbs := hb.size
        have c2r := (hb.cell (p := ⟨w.heap.size, 2, none⟩) (by show w.heap.size < _; omega)).trans c2
        by_cases hlt : k < len l
        · obtain ⟨y, hy⟩ := toL_at hlt
          obtain ⟨b, o, p', sl', n', cap', rfl, d0, d1, d2, hiny⟩ := (Hin.out.below hb).at hy
          have Hy := hid hy
          have Hiny := hid hiny
          clear hy hiny
          go_wp2_with (go_at_call 20; refine (Hi.out k y Hy.out _ _ _ _ _ Hiny.out).mono ?_; rintro e w5 ⟨⟨r, rfl, hr⟩, hb5⟩; have Hr5 := hid hr; clear hr; cases r)
          · go_ret
            exact ⟨Told.no _, hb1.trans ((hb.trans (hb5.mono hbs)).mono (by omega))⟩
          · go_roundw
            case rel => exact ⟨k + 1, by omega, by go_num, okUpT_succ Hok.out Hy.out (Hr5.out (by trivial)), hb.trans (hb5.mono hbs)⟩
            case measure => simp [intOf]; omega
        · have hkl : len l ≤ k := by omega
          go_wp2
          go_ret
          exact ⟨Told.yes (fun nm' h => by obtain rfl := Option.some.inj h; exact ⟨Hr.out (by trivial), okUpT_all Hok.out hkl⟩), hb1.trans (hb.mono (by omega))⟩

set_option maxHeartbeats 1000000 in
set_option maxRecDepth 100000 in
theorem names10 : ∀ x : F1, ∀ (w : World) (p sl : Option Addr) (m cap : Nat) (xl : Option Addr) (n xcap : Nat), InF w x p sl m cap xl n xcap →
    Calls Tryd.prog 10 #[.agg #[.int .i64 x.1.1, .pointer p, .slice sl m cap, .slice xl n xcap, .bool x.1.2.2.1]] w fun e w' => Told (okF1 x) e ∧ Below w.heap.size w w' := by
  apply ind_one
  rintro ⟨op, s, sh, args⟩ l ih w p sl m cap xl n xcap hin
  have hsym := hin.sym
  have hmaxA := hin.maxA
  have hmaxX := hin.maxX
  obtain rfl := hin.lenA
  obtain rfl := hin.lenX
  unfold maxLen at hmaxA hmaxX
  have Hi := hid ih
  clear ih
  go_enter Tryd.func10, Tryd.ntmps10
  rcases hsym with ⟨rfl, hs⟩ | ⟨nm, pb, po, hs, rfl, hc, hnm⟩
  · obtain rfl : s = none := hs
    have hb1 := box_below w (.cells #[.int .i64 op, .pointer none, .slice sl (len args) cap, .slice xl (len l) xcap, .bool sh] 26)
    have c2 : (w.alloc (.cells #[.int .i64 op, .pointer none, .slice sl (len args) cap, .slice xl (len l) xcap, .bool sh] 26)).cell? ⟨w.heap.size, 2, none⟩ = some (.slice sl (len args) cap) := by rw [World.cell?_alloc_at _ _ _ _ rfl]; rfl
    have c3 : (w.alloc (.cells #[.int .i64 op, .pointer none, .slice sl (len args) cap, .slice xl (len l) xcap, .bool sh] 26)).cell? ⟨w.heap.size, 3, none⟩ = some (.slice xl (len l) xcap) := by rw [World.cell?_alloc_at _ _ _ _ rfl]; rfl
    have Hin := hid (hin.below hb1)
    have hs1 : (w.alloc (.cells #[.int .i64 op, .pointer none, .slice sl (len args) cap, .slice xl (len l) xcap, .bool sh] 26)).heap.size = w.heap.size + 1 := by simp
    clear hin
    go_wp2_with fail
    · generalize (w.alloc (.cells #[.int .i64 op, .pointer none, .slice sl (len args) cap, .slice xl (len l) xcap, .bool sh] 26)) = w1 at *
      go_loopw [3] (fun v ws => ∃ (k : Nat), k ≤ len args ∧ v = .int .i64 k ∧ Hid (okUpT args k) ∧ Below w1.heap.size w1 ws) (fun v _ => len args - (intOf v).toNat)
      case atStart => exact ⟨0, Nat.zero_le _, rfl, okUpT_zero args, Below.refl _ _⟩
      case round =>
        obtain ⟨k, hk, rfl, Hok, hb⟩ := hrel
        have hbs := hb.size
        have c2r := (hb.cell (p := ⟨w.heap.size, 2, none⟩) (by show w.heap.size < _; omega)).trans c2
        by_cases hlt : k < len args
        · obtain ⟨y, hy⟩ := toL_at hlt
          obtain ⟨b, o, p', sl', n', cap', rfl, d0, d1, d2, hiny⟩ := (Hin.out.below hb).atA hy
          have Hy := hid hy
          have Hiny := hid hiny
          clear hy hiny
          go_wp2_with (go_at_call 20; refine (names20 y _ _ _ _ _ Hiny.out).mono ?_; rintro e w5 ⟨⟨r, rfl, hr⟩, hb5⟩; have Hr5 := hid hr; clear hr; cases r)
          · go_ret
            exact ⟨Told.no _, hb1.trans ((hb.trans (hb5.mono hbs)).mono (by omega))⟩
          · go_roundw
            case rel => exact ⟨k + 1, by omega, by go_num, okUpT_succ Hok.out Hy.out (Hr5.out (by trivial)), hb.trans (hb5.mono hbs)⟩
            case measure => simp [intOf]; omega
        · have HA := hid (okUpT_all Hok.out (show len args ≤ k by omega))
          go_wp2_with fail
          go_loopw [4] (fun v ws => ∃ (k : Nat), k ≤ len l ∧ v = .int .i64 k ∧ Hid (okUpF l k) ∧ Below w1.heap.size w1 ws) (fun v _ => len l - (intOf v).toNat)
          case atStart => exact ⟨0, Nat.zero_le _, rfl, okUpF_zero l, hb⟩
          case round =>
            clear c2r hbs hb hk hlt Hok
            obtain ⟨k, hk, rfl, Hok, hb⟩ := hrel
            have hbs := hb.size
            have c3r := (hb.cell (p := ⟨w.heap.size, 3, none⟩) (by show w.heap.size < _; omega)).trans c3
            by_cases hlt : k < len l
            · obtain ⟨y, hy⟩ := toL_at hlt
              obtain ⟨b, o, p', sl', m', cap', xl', n', xcap', rfl, d0, d1, d2, d3, d4, hiny⟩ := (Hin.out.below hb).atX hy
              have Hy := hid hy
              have Hiny := hid hiny
              clear hy hiny
              go_wp2_with (go_at_call 10; refine (Hi.out k y Hy.out _ _ _ _ _ _ _ _ Hiny.out).mono ?_; rintro e w5 ⟨⟨r, rfl, hr⟩, hb5⟩; have Hr5 := hid hr; clear hr; cases r)
              · go_ret
                exact ⟨Told.no _, hb1.trans ((hb.trans (hb5.mono hbs)).mono (by omega))⟩
              · go_roundw
                case rel => exact ⟨k + 1, by omega, by go_num, okUpF_succ Hok.out Hy.out (Hr5.out (by trivial)), hb.trans (hb5.mono hbs)⟩
                case measure => simp [intOf]; omega
            · have hkl : len l ≤ k := by omega
              go_wp2
              go_ret
              exact ⟨Told.yes ⟨(fun nm h => by cases h), HA.out, okUpF_all Hok.out hkl⟩, hb1.trans (hb.mono (by omega))⟩
  · obtain rfl : s = some nm := hs
    unfold maxLen at hnm
    have hpb : pb < w.heap.size := World.block_lt_of_cell? _ _ hc
    have hb1 := box_below w (.cells #[.int .i64 op, .pointer (some ⟨pb, po, none⟩), .slice sl (len args) cap, .slice xl (len l) xcap, .bool sh] 26)
    have hc' := (hb1.cell (p := ⟨pb, po, none⟩) hpb).trans hc
    have c1 : (w.alloc (.cells #[.int .i64 op, .pointer (some ⟨pb, po, none⟩), .slice sl (len args) cap, .slice xl (len l) xcap, .bool sh] 26)).cell? ⟨w.heap.size, 1, none⟩ = some (.pointer (some ⟨pb, po, none⟩)) := by rw [World.cell?_alloc_at _ _ _ _ rfl]; rfl
    have c2 : (w.alloc (.cells #[.int .i64 op, .pointer (some ⟨pb, po, none⟩), .slice sl (len args) cap, .slice xl (len l) xcap, .bool sh] 26)).cell? ⟨w.heap.size, 2, none⟩ = some (.slice sl (len args) cap) := by rw [World.cell?_alloc_at _ _ _ _ rfl]; rfl
    have c3 : (w.alloc (.cells #[.int .i64 op, .pointer (some ⟨pb, po, none⟩), .slice sl (len args) cap, .slice xl (len l) xcap, .bool sh] 26)).cell? ⟨w.heap.size, 3, none⟩ = some (.slice xl (len l) xcap) := by rw [World.cell?_alloc_at _ _ _ _ rfl]; rfl
    have Hin := hid (hin.below hb1)
    have hs1 : (w.alloc (.cells #[.int .i64 op, .pointer (some ⟨pb, po, none⟩), .slice sl (len args) cap, .slice xl (len l) xcap, .bool sh] 26)).heap.size = w.heap.size + 1 := by simp
    clear hin hc
    go_wp2_with (go_at_call 19; refine (nameF19 nm _ (by omega)).mono ?_; rintro e w5 ⟨⟨r, rfl, hr⟩, rfl⟩; have Hr := hid hr; clear hr; cases r)
    · go_ret
      exact ⟨Told.no _, hb1⟩
    · generalize (w.alloc (.cells #[.int .i64 op, .pointer (some ⟨pb, po, none⟩), .slice sl (len args) cap, .slice xl (len l) xcap, .bool sh] 26)) = w1 at *
      clear c1 hc'
      go_loopw [3] (fun v ws => ∃ (k : Nat), k ≤ len args ∧ v = .int .i64 k ∧ Hid (okUpT args k) ∧ Below w1.heap.size w1 ws) (fun v _ => len args - (intOf v).toNat)
      case atStart => exact ⟨0, Nat.zero_le _, rfl, okUpT_zero args, Below.refl _ _⟩
      case round =>
        obtain ⟨k, hk, rfl, Hok, hb⟩ := hrel
        have hbs := hb.size
        have c2r := (hb.cell (p := ⟨w.heap.size, 2, none⟩) (by show w.heap.size < _; omega)).trans c2
        by_cases hlt : k < len args
        · obtain ⟨y, hy⟩ := toL_at hlt
          obtain ⟨b, o, p', sl', n', cap', rfl, d0, d1, d2, hiny⟩ := (Hin.out.below hb).atA hy
          have Hy := hid hy
          have Hiny := hid hiny
          clear hy hiny
          go_wp2_with (go_at_call 20; refine (names20 y _ _ _ _ _ Hiny.out).mono ?_; rintro e w5 ⟨⟨r, rfl, hr⟩, hb5⟩; have Hr5 := hid hr; clear hr; cases r)
          · go_ret
            exact ⟨Told.no _, hb1.trans ((hb.trans (hb5.mono hbs)).mono (by omega))⟩
          · go_roundw
            case rel => exact ⟨k + 1, by omega, by go_num, okUpT_succ Hok.out Hy.out (Hr5.out (by trivial)), hb.trans (hb5.mono hbs)⟩
            case measure => simp [intOf]; omega
        · have HA := hid (okUpT_all Hok.out (show len args ≤ k by omega))
          go_wp2_with fail
          go_loopw [4] (fun v ws => ∃ (k : Nat), k ≤ len l ∧ v = .int .i64 k ∧ Hid (okUpF l k) ∧ Below w1.heap.size w1 ws) (fun v _ => len l - (intOf v).toNat)
          case atStart => exact ⟨0, Nat.zero_le _, rfl, okUpF_zero l, hb⟩
          case round =>
            clear c2r hbs hb hk hlt Hok
            obtain ⟨k, hk, rfl, Hok, hb⟩ := hrel
            have hbs := hb.size
            have c3r := (hb.cell (p := ⟨w.heap.size, 3, none⟩) (by show w.heap.size < _; omega)).trans c3
            by_cases hlt : k < len l
            · obtain ⟨y, hy⟩ := toL_at hlt
              obtain ⟨b, o, p', sl', m', cap', xl', n', xcap', rfl, d0, d1, d2, d3, d4, hiny⟩ := (Hin.out.below hb).atX hy
              have Hy := hid hy
              have Hiny := hid hiny
              clear hy hiny
              go_wp2_with (go_at_call 10; refine (Hi.out k y Hy.out _ _ _ _ _ _ _ _ Hiny.out).mono ?_; rintro e w5 ⟨⟨r, rfl, hr⟩, hb5⟩; have Hr5 := hid hr; clear hr; cases r)
              · go_ret
                exact ⟨Told.no _, hb1.trans ((hb.trans (hb5.mono hbs)).mono (by omega))⟩
              · go_roundw
                case rel => exact ⟨k + 1, by omega, by go_num, okUpF_succ Hok.out Hy.out (Hr5.out (by trivial)), hb.trans (hb5.mono hbs)⟩
                case measure => simp [intOf]; omega
            · have hkl : len l ≤ k := by omega
              go_wp2
              go_ret
              exact ⟨Told.yes ⟨(fun nm' h => by obtain rfl := Option.some.inj h; exact Hr.out (by trivial)), HA.out, okUpF_all Hok.out hkl⟩, hb1.trans (hb.mono (by omega))⟩

end Go.Proofs.Qxb6601988aDoor
