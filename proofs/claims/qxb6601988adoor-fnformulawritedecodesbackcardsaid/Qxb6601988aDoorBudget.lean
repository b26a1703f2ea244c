/-
  zzTermBudgetHB1, zzFormBudgetHB1.
-/
import Derived.Test.Qxb6601988aDoorIn
namespace Go.Proofs.Qxb6601988aDoor
open Go.RowKit
open Go.Deep (BT)

def preT (t : TL) (k : Nat) : Nat := (((toL t).take k).map cost1).sum
theorem preT_zero (t : TL) : preT t 0 = 0 := by simp [preT]
theorem preT_succ {t : TL} {k : Nat} {y : T1} (h : (toL t)[k]? = some y) : preT t (k + 1) = preT t k + cost1 y := sum_take_succ cost1 h
theorem preT_all (t : TL) : preT t (len t) = costT t := by rw [preT, ← toL_length, List.take_length, costT_sum]

def preF (t : FL) (k : Nat) : Nat := (((toL t).take k).map costF1).sum
theorem preF_zero (t : FL) : preF t 0 = 0 := by simp [preF]
theorem preF_succ {t : FL} {k : Nat} {y : F1} (h : (toL t)[k]? = some y) : preF t (k + 1) = preF t k + costF1 y := sum_take_succ costF1 h
theorem preF_all (t : FL) : preF t (len t) = costF t := by rw [preF, ← toL_length, List.take_length, costF_sum]

/-- the box of an argument: a new block -/
theorem box_below (w : World) (o : Obj) : Below w.heap.size w (w.alloc o) := (Below.refl _ _).alloc (Nat.le_refl _) o

def Bud (c : Nat) (bud : Int) (e : Ending) : Prop := ∃ r : Int, e = .returned (.int .i64 r) ∧ (r = -1 ∨ (0 ≤ r ∧ r + c ≤ bud))

set_option maxHeartbeats 400000 in
set_option maxRecDepth 100000 in
theorem budget13 : ∀ x : T1, ∀ (w : World) (p sl : Option Addr) (n cap : Nat) (bud : Int), InT w x p sl n cap → 0 ≤ bud → bud ≤ 1048576 →
    Calls Tryd.prog 13 #[.agg #[.pointer p, .int .i64 x.1.2, .slice sl n cap], .int .i64 bud] w fun e w' => Bud (cost1 x) bud e ∧ Below w.heap.size w w' := by
  apply ind_one
  rintro ⟨s, v⟩ l ih w p sl n cap bud hin hb0 hb1
  have hsym := hin.sym
  have hmax := hin.max
  obtain rfl := hin.len
  unfold maxLen at hmax
  have Hi := hid ih
  clear ih
  go_enter Tryd.func13, Tryd.ntmps13
  rcases hsym with ⟨rfl, hs⟩ | ⟨nm, pb, po, hs, rfl, hc, hnm⟩
  · obtain rfl : s = none := hs
    go_wp2_with fail
    all_goals try (go_ret; exact ⟨⟨-1, rfl, .inl rfl⟩, box_below _ _⟩)
    have hb1 := box_below w (.cells #[.pointer none, .int .i64 v, .slice sl (len l) cap] 53)
    have c2 : (w.alloc (.cells #[.pointer none, .int .i64 v, .slice sl (len l) cap] 53)).cell? ⟨w.heap.size, 2, none⟩ = some (.slice sl (len l) cap) := by rw [World.cell?_alloc_at _ _ _ _ rfl]; rfl
    have hin1 := hin.below hb1
    have hs1 : (w.alloc (.cells #[.pointer none, .int .i64 v, .slice sl (len l) cap] 53)).heap.size = w.heap.size + 1 := by simp
    generalize (w.alloc (.cells #[.pointer none, .int .i64 v, .slice sl (len l) cap] 53)) = w1 at *
    have Hin := hid hin1
    clear hin hin1 
    go_loopw [1, 5] (fun b v ws => ∃ (k : Nat) (bd : Int), k ≤ len l ∧ v = .int .i64 k ∧ b = .int .i64 bd ∧ 0 ≤ bd ∧ Hid (bd + (40 : Int) + preT l k ≤ bud) ∧ Below w1.heap.size w1 ws) (fun _ v _ => len l - (intOf v).toNat)
    case atStart => exact ⟨0, _, Nat.zero_le _, rfl, rfl, by omega, by rw [preT_zero]; show _ ≤ _; omega, Below.refl _ _⟩
    case round =>
      obtain ⟨k, bd, hk, rfl, rfl, hbd, Hle, hb⟩ := hrel
      have hbs := hb.size
      have c2r := (hb.cell (p := ⟨w.heap.size, 2, none⟩) (by show w.heap.size < _; omega)).trans c2
      have hle : bd + (40 : Int) + preT l k ≤ bud := Hle
      have hbd1 : bd ≤ 1048576 := by omega
      clear hle
      by_cases hlt : k < len l
      · obtain ⟨y, hy⟩ := toL_at hlt
        obtain ⟨b, o, p', sl', n', cap', rfl, d0, d1, d2, hiny⟩ := (Hin.out.below hb).at hy
        have Hy := hid hy
        have Hiny := hid hiny
        clear hy hiny
        go_wp2_with (go_at_call 13; refine (Hi.out k y Hy.out _ _ _ _ _ _ Hiny.out hbd hbd1).mono ?_; rintro e w5 ⟨⟨r, rfl, hr⟩, hb5⟩)
        · go_ret
          exact ⟨⟨-1, rfl, .inl rfl⟩, hb1.trans ((hb.trans (hb5.mono hbs)).mono (by omega))⟩
        · go_roundw
          case rel =>
            have hr0 : 0 ≤ r ∧ r + cost1 y ≤ bd := by
              rcases hr with hr | hr
              · omega
              · exact hr
            refine ⟨k + 1, r, by omega, by go_num, rfl, hr0.1, ?_, hb.trans (hb5.mono hbs)⟩
            have h1 : bd + (40 : Int) + preT l k ≤ bud := Hle
            show _ ≤ _
            rw [preT_succ Hy.out]
            omega
          case measure => simp [intOf]; omega
      · go_wp2
        go_ret
        refine ⟨⟨bd, rfl, .inr ⟨hbd, ?_⟩⟩, hb1.trans (hb.mono (by omega))⟩
        have h1 : bd + (40 : Int) + preT l k ≤ bud := Hle
        rw [show k = len l by omega, preT_all] at h1
        simp only [cost1, symCost]
        omega
  · obtain rfl : s = some nm := hs
    unfold maxLen at hnm
    have hpb : pb < w.heap.size := World.block_lt_of_cell? _ _ hc
    have hc' := fun o => ((box_below w o).cell (p := ⟨pb, po, none⟩) hpb).trans hc
    go_wp2_with fail
    all_goals try (go_ret; exact ⟨⟨-1, rfl, .inl rfl⟩, box_below _ _⟩)
    have hb1 := box_below w (.cells #[.pointer (some ⟨pb, po, none⟩), .int .i64 v, .slice sl (len l) cap] 53)
    have c2 : (w.alloc (.cells #[.pointer (some ⟨pb, po, none⟩), .int .i64 v, .slice sl (len l) cap] 53)).cell? ⟨w.heap.size, 2, none⟩ = some (.slice sl (len l) cap) := by rw [World.cell?_alloc_at _ _ _ _ rfl]; rfl
    have hin1 := hin.below hb1
    have hs1 : (w.alloc (.cells #[.pointer (some ⟨pb, po, none⟩), .int .i64 v, .slice sl (len l) cap] 53)).heap.size = w.heap.size + 1 := by simp
    generalize (w.alloc (.cells #[.pointer (some ⟨pb, po, none⟩), .int .i64 v, .slice sl (len l) cap] 53)) = w1 at *
    have Hin := hid hin1
    clear hin hin1 hc hc'
    go_loopw [1, 5] (fun b v ws => ∃ (k : Nat) (bd : Int), k ≤ len l ∧ v = .int .i64 k ∧ b = .int .i64 bd ∧ 0 ≤ bd ∧ Hid (bd + ((40 + (16 + nm.size) : Nat) : Int) + preT l k ≤ bud) ∧ Below w1.heap.size w1 ws) (fun _ v _ => len l - (intOf v).toNat)
    case atStart => exact ⟨0, _, Nat.zero_le _, rfl, rfl, by omega, by rw [preT_zero]; show _ ≤ _; omega, Below.refl _ _⟩
    case round =>
      obtain ⟨k, bd, hk, rfl, rfl, hbd, Hle, hb⟩ := hrel
      have hbs := hb.size
      have c2r := (hb.cell (p := ⟨w.heap.size, 2, none⟩) (by show w.heap.size < _; omega)).trans c2
      have hle : bd + ((40 + (16 + nm.size) : Nat) : Int) + preT l k ≤ bud := Hle
      have hbd1 : bd ≤ 1048576 := by omega
      clear hle
      by_cases hlt : k < len l
      · obtain ⟨y, hy⟩ := toL_at hlt
        obtain ⟨b, o, p', sl', n', cap', rfl, d0, d1, d2, hiny⟩ := (Hin.out.below hb).at hy
        have Hy := hid hy
        have Hiny := hid hiny
        clear hy hiny
        go_wp2_with (go_at_call 13; refine (Hi.out k y Hy.out _ _ _ _ _ _ Hiny.out hbd hbd1).mono ?_; rintro e w5 ⟨⟨r, rfl, hr⟩, hb5⟩)
        · go_ret
          exact ⟨⟨-1, rfl, .inl rfl⟩, hb1.trans ((hb.trans (hb5.mono hbs)).mono (by omega))⟩
        · go_roundw
          case rel =>
            have hr0 : 0 ≤ r ∧ r + cost1 y ≤ bd := by
              rcases hr with hr | hr
              · omega
              · exact hr
            refine ⟨k + 1, r, by omega, by go_num, rfl, hr0.1, ?_, hb.trans (hb5.mono hbs)⟩
            have h1 : bd + ((40 + (16 + nm.size) : Nat) : Int) + preT l k ≤ bud := Hle
            show _ ≤ _
            rw [preT_succ Hy.out]
            omega
          case measure => simp [intOf]; omega
      · go_wp2
        go_ret
        refine ⟨⟨bd, rfl, .inr ⟨hbd, ?_⟩⟩, hb1.trans (hb.mono (by omega))⟩
        have h1 : bd + ((40 + (16 + nm.size) : Nat) : Int) + preT l k ≤ bud := Hle
        rw [show k = len l by omega, preT_all] at h1
        simp only [cost1, symCost]
        omega

set_option maxHeartbeats 1000000 in
set_option maxRecDepth 100000 in
theorem budget5 : ∀ x : F1, ∀ (w : World) (p sl : Option Addr) (m cap : Nat) (xl : Option Addr) (n xcap : Nat) (bud : Int), InF w x p sl m cap xl n xcap → 0 ≤ bud → bud ≤ 1048576 →
    Calls Tryd.prog 5 #[.agg #[.int .i64 x.1.1, .pointer p, .slice sl m cap, .slice xl n xcap, .bool x.1.2.2.1], .int .i64 bud] w fun e w' => Bud (costF1 x) bud e ∧ Below w.heap.size w w' := by
  apply ind_one
  rintro ⟨op, s, sh, args⟩ l ih w p sl m cap xl n xcap bud hin hb0 hb1
  have hsym := hin.sym
  have hmaxA := hin.maxA
  have hmaxX := hin.maxX
  obtain rfl := hin.lenA
  obtain rfl := hin.lenX
  unfold maxLen at hmaxA hmaxX
  have Hi := hid ih
  clear ih
  go_enter Tryd.func5, Tryd.ntmps5
  rcases hsym with ⟨rfl, hs⟩ | ⟨nm, pb, po, hs, rfl, hc, hnm⟩
  · obtain rfl : s = none := hs
    go_wp2_with fail
    all_goals try (go_ret; exact ⟨⟨-1, rfl, .inl rfl⟩, box_below _ _⟩)
    have hb1 := box_below w (.cells #[.int .i64 op, .pointer none, .slice sl (len args) cap, .slice xl (len l) xcap, .bool sh] 26)
    have c2 : (w.alloc (.cells #[.int .i64 op, .pointer none, .slice sl (len args) cap, .slice xl (len l) xcap, .bool sh] 26)).cell? ⟨w.heap.size, 2, none⟩ = some (.slice sl (len args) cap) := by rw [World.cell?_alloc_at _ _ _ _ rfl]; rfl
    have c3 : (w.alloc (.cells #[.int .i64 op, .pointer none, .slice sl (len args) cap, .slice xl (len l) xcap, .bool sh] 26)).cell? ⟨w.heap.size, 3, none⟩ = some (.slice xl (len l) xcap) := by rw [World.cell?_alloc_at _ _ _ _ rfl]; rfl
    have hin1 := hin.below hb1
    have hs1 : (w.alloc (.cells #[.int .i64 op, .pointer none, .slice sl (len args) cap, .slice xl (len l) xcap, .bool sh] 26)).heap.size = w.heap.size + 1 := by simp
    generalize (w.alloc (.cells #[.int .i64 op, .pointer none, .slice sl (len args) cap, .slice xl (len l) xcap, .bool sh] 26)) = w1 at *
    have Hin := hid hin1
    clear hin hin1 
    go_loopw [1, 5] (fun b v ws => ∃ (k : Nat) (bd : Int), k ≤ len args ∧ v = .int .i64 k ∧ b = .int .i64 bd ∧ 0 ≤ bd ∧ Hid (bd + (72 : Int) + preT args k ≤ bud) ∧ Below w1.heap.size w1 ws) (fun _ v _ => len args - (intOf v).toNat)
    case atStart => exact ⟨0, _, Nat.zero_le _, rfl, rfl, by omega, by rw [preT_zero]; show _ ≤ _; omega, Below.refl _ _⟩
    case round =>
      obtain ⟨k, bd, hk, rfl, rfl, hbd, Hle, hb⟩ := hrel
      have hbs := hb.size
      have c2r := (hb.cell (p := ⟨w.heap.size, 2, none⟩) (by show w.heap.size < _; omega)).trans c2
      have hle : bd + (72 : Int) + preT args k ≤ bud := Hle
      have hbd1 : bd ≤ 1048576 := by omega
      clear hle
      by_cases hlt : k < len args
      · obtain ⟨y, hy⟩ := toL_at hlt
        obtain ⟨b, o, p', sl', n', cap', rfl, d0, d1, d2, hiny⟩ := (Hin.out.below hb).atA hy
        have Hy := hid hy
        have Hiny := hid hiny
        clear hy hiny
        go_wp2_with (go_at_call 13; refine (budget13 y _ _ _ _ _ _ Hiny.out hbd hbd1).mono ?_; rintro e w5 ⟨⟨r, rfl, hr⟩, hb5⟩)
        · go_ret
          exact ⟨⟨-1, rfl, .inl rfl⟩, hb1.trans ((hb.trans (hb5.mono hbs)).mono (by omega))⟩
        · go_roundw
          case rel =>
            have hr0 : 0 ≤ r ∧ r + cost1 y ≤ bd := by
              rcases hr with hr | hr
              · omega
              · exact hr
            refine ⟨k + 1, r, by omega, by go_num, rfl, hr0.1, ?_, hb.trans (hb5.mono hbs)⟩
            have h1 : bd + (72 : Int) + preT args k ≤ bud := Hle
            show _ ≤ _
            rw [preT_succ Hy.out]
            omega
          case measure => simp [intOf]; omega
      · have h2 : bd + (72 : Int) + costT args ≤ bud := by
          have h1 : bd + (72 : Int) + preT args k ≤ bud := Hle
          rw [show k = len args by omega, preT_all] at h1
          exact h1
        clear Hle
        go_wp2_with fail
        go_loopw [1, 6] (fun b v ws => ∃ (k : Nat) (bd : Int), k ≤ len l ∧ v = .int .i64 k ∧ b = .int .i64 bd ∧ 0 ≤ bd ∧ Hid (bd + (72 : Int) + costT args + preF l k ≤ bud) ∧ Below w1.heap.size w1 ws) (fun _ v _ => len l - (intOf v).toNat)
        case atStart => exact ⟨0, _, Nat.zero_le _, rfl, rfl, hbd, by rw [preF_zero]; show _ ≤ _; omega, hb⟩
        case round =>
          clear c2r hbs hb hbd hbd1 h2 hk hlt
          obtain ⟨k, bd, hk, rfl, rfl, hbd, Hle, hb⟩ := hrel
          have hbs := hb.size
          have c3r := (hb.cell (p := ⟨w.heap.size, 3, none⟩) (by show w.heap.size < _; omega)).trans c3
          have hle : bd + (72 : Int) + costT args + preF l k ≤ bud := Hle
          have hbd1 : bd ≤ 1048576 := by omega
          clear hle
          by_cases hlt : k < len l
          · obtain ⟨y, hy⟩ := toL_at hlt
            obtain ⟨b, o, p', sl', m', cap', xl', n', xcap', rfl, d0, d1, d2, d3, d4, hiny⟩ := (Hin.out.below hb).atX hy
            have Hy := hid hy
            have Hiny := hid hiny
            clear hy hiny
            go_wp2_with (go_at_call 5; refine (Hi.out k y Hy.out _ _ _ _ _ _ _ _ _ Hiny.out hbd hbd1).mono ?_; rintro e w5 ⟨⟨r, rfl, hr⟩, hb5⟩)
            · go_ret
              exact ⟨⟨-1, rfl, .inl rfl⟩, hb1.trans ((hb.trans (hb5.mono hbs)).mono (by omega))⟩
            · go_roundw
              case rel =>
                have hr0 : 0 ≤ r ∧ r + costF1 y ≤ bd := by
                  rcases hr with hr | hr
                  · omega
                  · exact hr
                refine ⟨k + 1, r, by omega, by go_num, rfl, hr0.1, ?_, hb.trans (hb5.mono hbs)⟩
                have h1 : bd + (72 : Int) + costT args + preF l k ≤ bud := Hle
                show _ ≤ _
                rw [preF_succ Hy.out]
                omega
              case measure => simp [intOf]; omega
          · go_wp2
            go_ret
            refine ⟨⟨bd, rfl, .inr ⟨hbd, ?_⟩⟩, hb1.trans (hb.mono (by omega))⟩
            have h1 : bd + (72 : Int) + costT args + preF l k ≤ bud := Hle
            rw [show k = len l by omega, preF_all] at h1
            simp only [costF1, symCost]
            omega
  · obtain rfl : s = some nm := hs
    unfold maxLen at hnm
    have hpb : pb < w.heap.size := World.block_lt_of_cell? _ _ hc
    have hc' := fun o => ((box_below w o).cell (p := ⟨pb, po, none⟩) hpb).trans hc
    go_wp2_with fail
    all_goals try (go_ret; exact ⟨⟨-1, rfl, .inl rfl⟩, box_below _ _⟩)
    have hb1 := box_below w (.cells #[.int .i64 op, .pointer (some ⟨pb, po, none⟩), .slice sl (len args) cap, .slice xl (len l) xcap, .bool sh] 26)
    have c2 : (w.alloc (.cells #[.int .i64 op, .pointer (some ⟨pb, po, none⟩), .slice sl (len args) cap, .slice xl (len l) xcap, .bool sh] 26)).cell? ⟨w.heap.size, 2, none⟩ = some (.slice sl (len args) cap) := by rw [World.cell?_alloc_at _ _ _ _ rfl]; rfl
    have c3 : (w.alloc (.cells #[.int .i64 op, .pointer (some ⟨pb, po, none⟩), .slice sl (len args) cap, .slice xl (len l) xcap, .bool sh] 26)).cell? ⟨w.heap.size, 3, none⟩ = some (.slice xl (len l) xcap) := by rw [World.cell?_alloc_at _ _ _ _ rfl]; rfl
    have hin1 := hin.below hb1
    have hs1 : (w.alloc (.cells #[.int .i64 op, .pointer (some ⟨pb, po, none⟩), .slice sl (len args) cap, .slice xl (len l) xcap, .bool sh] 26)).heap.size = w.heap.size + 1 := by simp
    generalize (w.alloc (.cells #[.int .i64 op, .pointer (some ⟨pb, po, none⟩), .slice sl (len args) cap, .slice xl (len l) xcap, .bool sh] 26)) = w1 at *
    have Hin := hid hin1
    clear hin hin1 hc hc'
    go_loopw [1, 5] (fun b v ws => ∃ (k : Nat) (bd : Int), k ≤ len args ∧ v = .int .i64 k ∧ b = .int .i64 bd ∧ 0 ≤ bd ∧ Hid (bd + ((72 + (16 + nm.size) : Nat) : Int) + preT args k ≤ bud) ∧ Below w1.heap.size w1 ws) (fun _ v _ => len args - (intOf v).toNat)
    case atStart => exact ⟨0, _, Nat.zero_le _, rfl, rfl, by omega, by rw [preT_zero]; show _ ≤ _; omega, Below.refl _ _⟩
    case round =>
      obtain ⟨k, bd, hk, rfl, rfl, hbd, Hle, hb⟩ := hrel
      have hbs := hb.size
      have c2r := (hb.cell (p := ⟨w.heap.size, 2, none⟩) (by show w.heap.size < _; omega)).trans c2
      have hle : bd + ((72 + (16 + nm.size) : Nat) : Int) + preT args k ≤ bud := Hle
      have hbd1 : bd ≤ 1048576 := by omega
      clear hle
      by_cases hlt : k < len args
      · obtain ⟨y, hy⟩ := toL_at hlt
        obtain ⟨b, o, p', sl', n', cap', rfl, d0, d1, d2, hiny⟩ := (Hin.out.below hb).atA hy
        have Hy := hid hy
        have Hiny := hid hiny
        clear hy hiny
        go_wp2_with (go_at_call 13; refine (budget13 y _ _ _ _ _ _ Hiny.out hbd hbd1).mono ?_; rintro e w5 ⟨⟨r, rfl, hr⟩, hb5⟩)
        · go_ret
          exact ⟨⟨-1, rfl, .inl rfl⟩, hb1.trans ((hb.trans (hb5.mono hbs)).mono (by omega))⟩
        · go_roundw
          case rel =>
            have hr0 : 0 ≤ r ∧ r + cost1 y ≤ bd := by
              rcases hr with hr | hr
              · omega
              · exact hr
            refine ⟨k + 1, r, by omega, by go_num, rfl, hr0.1, ?_, hb.trans (hb5.mono hbs)⟩
            have h1 : bd + ((72 + (16 + nm.size) : Nat) : Int) + preT args k ≤ bud := Hle
            show _ ≤ _
            rw [preT_succ Hy.out]
            omega
          case measure => simp [intOf]; omega
      · have h2 : bd + ((72 + (16 + nm.size) : Nat) : Int) + costT args ≤ bud := by
          have h1 : bd + ((72 + (16 + nm.size) : Nat) : Int) + preT args k ≤ bud := Hle
          rw [show k = len args by omega, preT_all] at h1
          exact h1
        clear Hle
        go_wp2_with fail
        go_loopw [1, 6] (fun b v ws => ∃ (k : Nat) (bd : Int), k ≤ len l ∧ v = .int .i64 k ∧ b = .int .i64 bd ∧ 0 ≤ bd ∧ Hid (bd + ((72 + (16 + nm.size) : Nat) : Int) + costT args + preF l k ≤ bud) ∧ Below w1.heap.size w1 ws) (fun _ v _ => len l - (intOf v).toNat)
        case atStart => exact ⟨0, _, Nat.zero_le _, rfl, rfl, hbd, by rw [preF_zero]; show _ ≤ _; omega, hb⟩
        case round =>
          clear c2r hbs hb hbd hbd1 h2 hk hlt
          obtain ⟨k, bd, hk, rfl, rfl, hbd, Hle, hb⟩ := hrel
          have hbs := hb.size
          have c3r := (hb.cell (p := ⟨w.heap.size, 3, none⟩) (by show w.heap.size < _; omega)).trans c3
          have hle : bd + ((72 + (16 + nm.size) : Nat) : Int) + costT args + preF l k ≤ bud := Hle
          have hbd1 : bd ≤ 1048576 := by omega
          clear hle
          by_cases hlt : k < len l
          · obtain ⟨y, hy⟩ := toL_at hlt
            obtain ⟨b, o, p', sl', m', cap', xl', n', xcap', rfl, d0, d1, d2, d3, d4, hiny⟩ := (Hin.out.below hb).atX hy
            have Hy := hid hy
            have Hiny := hid hiny
            clear hy hiny
            go_wp2_with (go_at_call 5; refine (Hi.out k y Hy.out _ _ _ _ _ _ _ _ _ Hiny.out hbd hbd1).mono ?_; rintro e w5 ⟨⟨r, rfl, hr⟩, hb5⟩)
            · go_ret
              exact ⟨⟨-1, rfl, .inl rfl⟩, hb1.trans ((hb.trans (hb5.mono hbs)).mono (by omega))⟩
            · go_roundw
              case rel =>
                have hr0 : 0 ≤ r ∧ r + costF1 y ≤ bd := by
                  rcases hr with hr | hr
                  · omega
                  · exact hr
                refine ⟨k + 1, r, by omega, by go_num, rfl, hr0.1, ?_, hb.trans (hb5.mono hbs)⟩
                have h1 : bd + ((72 + (16 + nm.size) : Nat) : Int) + costT args + preF l k ≤ bud := Hle
                show _ ≤ _
                rw [preF_succ Hy.out]
                omega
              case measure => simp [intOf]; omega
          · go_wp2
            go_ret
            refine ⟨⟨bd, rfl, .inr ⟨hbd, ?_⟩⟩, hb1.trans (hb.mono (by omega))⟩
            have h1 : bd + ((72 + (16 + nm.size) : Nat) : Int) + costT args + preF l k ≤ bud := Hle
            rw [show k = len l by omega, preF_all] at h1
            simp only [costF1, symCost]
            omega

end Go.Proofs.Qxb6601988aDoor
