/-
  Small functions of this seat: zzBytes_.., the clones.
-/
import Derived.Test.Qxb6601535aParts
import Derived.Test.Qxb6601535aModel
import Derived.OpenShut
import Derived.Lib.SliceRun
namespace Go.Proofs.Qxb6601535a
open Go.RowKit

theorem Try.info30 : (Try.prog.info? 30).map (fun i => (i.zero, i.size, i.bytes)) = some (some (.int .u64 0), 1, 8) := by kernel_rfl
theorem Try.info5 : (Try.prog.info? 5).map (fun i => (i.zero, i.size, i.bytes)) = some (some (.int .u8 0), 1, 1) := by kernel_rfl

set_option maxHeartbeats 1000000 in
set_option maxRecDepth 100000 in
theorem bytes23 (a0 : Option Addr) (n c0 : Nat) (a1 : Option Addr) (m c1 : Nat) (x y : Int) (w : World) (hn : n ≤ maxLen) (hm : m ≤ maxLen) :
    Calls Try.prog 23 #[.slice a0 n c0, .slice a1 m c1, .int .i64 x, .int .i64 y] w fun e w' => IsBool e ∧ w' = w := by
  simp only [maxLen] at hn hm
  go_enter Try.func23, Try.ntmps23
  by_cases h1 : n ≤ 1048576
  · by_cases h2 : m ≤ 1048576
    · by_cases h3 : n + m ≤ 1048576
      · go_wp2
        go_ret
        exact ⟨⟨_, rfl⟩, rfl⟩
      · go_wp2
        go_ret
        exact ⟨⟨_, rfl⟩, rfl⟩
    · go_wp2
      go_ret
      exact ⟨⟨_, rfl⟩, rfl⟩
  · go_wp2
    go_ret
    exact ⟨⟨_, rfl⟩, rfl⟩

set_option maxHeartbeats 1000000 in
set_option maxRecDepth 100000 in
theorem clone24 (a0 : Option Addr) (n c0 : Nat) (zs : List Int) (w : World) (h0 : Rd w .u64 a0 n zs) (hn : n ≤ 1048576) :
    Calls Try.prog 24 #[.slice a0 n c0] w fun e w' => ∃ a c, e = .returned (.slice a n c) ∧ Rd w' .u64 a n zs ∧ Below w.heap.size w w' := by
  obtain ⟨i0, hi, hz0, hz1, hz2⟩ := info_parts Try.info30
  go_enter Try.func24, Try.ntmps24
  cases a0 with
  | none =>
    obtain rfl : n = 0 := by
      rcases Nat.eq_zero_or_pos n with h | h
      · exact h
      · obtain ⟨b, off, h1, _⟩ := h0.at h
        cases h1
    have e0 := fun w => Lib.run_eql_slice_nil (P := Try.prog) w 39 30 none 0 c0 0 0 Try.underlying39
    go_wp2
    go_ret
    exact ⟨_, _, rfl, h0, Below.refl _ _⟩
  | some ad =>
    have e0 := fun w => Lib.run_eql_slice_nil (P := Try.prog) w 39 30 (some ad) n c0 0 0 Try.underlying39
    go_wp2_with (at_make; refine wpList_make_row _ rfl _ _ 39 rfl i0 (.int .u64 0) Try.underlying39 hi hz0 hz1 rfl _ _ _ _ n rfl rfl rfl rfl (by rw [hz2]; omega) (by unfold maxLen; omega) ?_)
    intro w1 hrow hgrow hsz
    have hb1 : Below w.heap.size w w1 := (Below.refl _ _).grown hgrow (Nat.le_refl _) (fun k hk => by cases hk)
    clear hsz hgrow
    rw [rowF_zero] at hrow
    go_wp2_with fail
    go_loopw [4] (fun v wr => ∃ k : Nat, k ≤ n ∧ v = .int .i64 k ∧ RowAt wr 30 w.heap.size 0 n (rowF .u64 n (fun i => if i < k then zs.getD i 0 else 0)) ∧ Below w.heap.size w wr) (fun v _ => n - (intOf v).toNat)
    case atStart => exact ⟨0, Nat.zero_le _, rfl, hrow, hb1⟩
    case round =>
      clear hrow hb1
      obtain ⟨k, hk, rfl, hr, hbl⟩ := hrel
      by_cases hlt : k < n
      · obtain ⟨b, off, had, hc, hwf⟩ := h0.at hlt
        cases had
        have hc' := (hbl.cell (World.block_lt_of_cell? _ _ hc)).trans hc
        have hfr := hr.frozen k
        obtain ⟨z0, hcc⟩ : ∃ c0, wr.cell? ⟨w.heap.size, 0 + k, none⟩ = some c0 := ⟨_, hr.cell_some (rowF_at _ _ hlt)⟩
        simp only [Nat.zero_add] at hcc
        obtain ⟨z, hz⟩ : ∃ z, z = zs.getD k 0 := ⟨_, rfl⟩
        rw [← hz] at hc'
        have Hz := hid hz
        clear hz hc hwf
        go_wp2
        go_roundw
        case rel =>
          refine ⟨k + 1, by omega, by go_num, ?_, hbl.setCell (Nat.le_refl _) _⟩
          have hst := hr.stored k (.int .u64 z)
          rw [Nat.zero_add, rowF_set .u64 _ (fun i => if i < k + 1 then zs.getD i 0 else 0) z (by rw [if_pos (by omega)]; exact Hz.out.symm) (fun j _ hne => by
            by_cases e : j < k
            · rw [if_pos e, if_pos (by omega)]
            · rw [if_neg e, if_neg (by omega)])] at hst
          exact hst
        case measure => simp [intOf]; omega
      · have hr' : RowAt wr 30 w.heap.size 0 n (zs.map (Value.int .u64)) := by
          have h := hr
          rw [rowF_congr .u64 (g := fun i => zs.getD i 0) (fun i hi => by rw [if_pos (by omega)])] at h
          rw [rowF_of_list, h0.len]
          exact h
        clear hr
        go_wp2
        go_ret
        refine ⟨_, _, rfl, ?_, hbl⟩
        have h := Rd.of_row hr' (fun x hx => by
          obtain ⟨j, hj⟩ := List.mem_iff_getElem?.1 hx
          obtain ⟨_, _, _, _, h⟩ := h0.cells j x hj
          exact h)
        rw [h0.len] at h
        exact h

set_option maxHeartbeats 1000000 in
set_option maxRecDepth 100000 in
theorem clone25 (a0 : Option Addr) (n c0 : Nat) (zs : List Int) (w : World) (h0 : Rd w .i64 a0 n zs) (hn : n ≤ 1048576) :
    Calls Try.prog 25 #[.slice a0 n c0] w fun e w' => ∃ a c, e = .returned (.slice a n c) ∧ Rd w' .i64 a n zs ∧ Below w.heap.size w w' := by
  obtain ⟨i0, hi, hz0, hz1, hz2⟩ := info_parts Try.info3
  go_enter Try.func25, Try.ntmps25
  cases a0 with
  | none =>
    obtain rfl : n = 0 := by
      rcases Nat.eq_zero_or_pos n with h | h
      · exact h
      · obtain ⟨b, off, h1, _⟩ := h0.at h
        cases h1
    have e0 := fun w => Lib.run_eql_slice_nil (P := Try.prog) w 40 3 none 0 c0 0 0 Try.underlying40
    go_wp2
    go_ret
    exact ⟨_, _, rfl, h0, Below.refl _ _⟩
  | some ad =>
    have e0 := fun w => Lib.run_eql_slice_nil (P := Try.prog) w 40 3 (some ad) n c0 0 0 Try.underlying40
    go_wp2_with (at_make; refine wpList_make_row _ rfl _ _ 40 rfl i0 (.int .i64 0) Try.underlying40 hi hz0 hz1 rfl _ _ _ _ n rfl rfl rfl rfl (by rw [hz2]; omega) (by unfold maxLen; omega) ?_)
    intro w1 hrow hgrow hsz
    have hb1 : Below w.heap.size w w1 := (Below.refl _ _).grown hgrow (Nat.le_refl _) (fun k hk => by cases hk)
    clear hsz hgrow
    rw [rowF_zero] at hrow
    go_wp2_with fail
    go_loopw [4] (fun v wr => ∃ k : Nat, k ≤ n ∧ v = .int .i64 k ∧ RowAt wr 3 w.heap.size 0 n (rowF .i64 n (fun i => if i < k then zs.getD i 0 else 0)) ∧ Below w.heap.size w wr) (fun v _ => n - (intOf v).toNat)
    case atStart => exact ⟨0, Nat.zero_le _, rfl, hrow, hb1⟩
    case round =>
      clear hrow hb1
      obtain ⟨k, hk, rfl, hr, hbl⟩ := hrel
      by_cases hlt : k < n
      · obtain ⟨b, off, had, hc, hwf⟩ := h0.at hlt
        cases had
        have hc' := (hbl.cell (World.block_lt_of_cell? _ _ hc)).trans hc
        have hfr := hr.frozen k
        obtain ⟨z0, hcc⟩ : ∃ c0, wr.cell? ⟨w.heap.size, 0 + k, none⟩ = some c0 := ⟨_, hr.cell_some (rowF_at _ _ hlt)⟩
        simp only [Nat.zero_add] at hcc
        obtain ⟨z, hz⟩ : ∃ z, z = zs.getD k 0 := ⟨_, rfl⟩
        rw [← hz] at hc'
        have Hz := hid hz
        clear hz hc hwf
        go_wp2
        go_roundw
        case rel =>
          refine ⟨k + 1, by omega, by go_num, ?_, hbl.setCell (Nat.le_refl _) _⟩
          have hst := hr.stored k (.int .i64 z)
          rw [Nat.zero_add, rowF_set .i64 _ (fun i => if i < k + 1 then zs.getD i 0 else 0) z (by rw [if_pos (by omega)]; exact Hz.out.symm) (fun j _ hne => by
            by_cases e : j < k
            · rw [if_pos e, if_pos (by omega)]
            · rw [if_neg e, if_neg (by omega)])] at hst
          exact hst
        case measure => simp [intOf]; omega
      · have hr' : RowAt wr 3 w.heap.size 0 n (zs.map (Value.int .i64)) := by
          have h := hr
          rw [rowF_congr .i64 (g := fun i => zs.getD i 0) (fun i hi => by rw [if_pos (by omega)])] at h
          rw [rowF_of_list, h0.len]
          exact h
        clear hr
        go_wp2
        go_ret
        refine ⟨_, _, rfl, ?_, hbl⟩
        have h := Rd.of_row hr' (fun x hx => by
          obtain ⟨j, hj⟩ := List.mem_iff_getElem?.1 hx
          obtain ⟨_, _, _, _, h⟩ := h0.cells j x hj
          exact h)
        rw [h0.len] at h
        exact h

set_option maxHeartbeats 1000000 in
set_option maxRecDepth 100000 in
theorem clone16 (a0 : Option Addr) (n c0 : Nat) (zs : List Int) (w : World) (h0 : Rd w .u8 a0 n zs) (hn : n ≤ 1048576) :
    Calls Try.prog 16 #[.slice a0 n c0] w fun e w' => ∃ a c, e = .returned (.slice a n c) ∧ Rd w' .u8 a n zs ∧ Below w.heap.size w w' := by
  obtain ⟨i0, hi, hz0, hz1, hz2⟩ := info_parts Try.info5
  go_enter Try.func16, Try.ntmps16
  cases a0 with
  | none =>
    obtain rfl : n = 0 := by
      rcases Nat.eq_zero_or_pos n with h | h
      · exact h
      · obtain ⟨b, off, h1, _⟩ := h0.at h
        cases h1
    have e0 := fun w => Lib.run_eql_slice_nil (P := Try.prog) w 27 5 none 0 c0 0 0 Try.underlying27
    go_wp2
    go_ret
    exact ⟨_, _, rfl, h0, Below.refl _ _⟩
  | some ad =>
    have e0 := fun w => Lib.run_eql_slice_nil (P := Try.prog) w 27 5 (some ad) n c0 0 0 Try.underlying27
    go_wp2_with (at_make; refine wpList_make_row _ rfl _ _ 27 rfl i0 (.int .u8 0) Try.underlying27 hi hz0 hz1 rfl _ _ _ _ n rfl rfl rfl rfl (by rw [hz2]; omega) (by unfold maxLen; omega) ?_)
    intro w1 hrow hgrow hsz
    have hb1 : Below w.heap.size w w1 := (Below.refl _ _).grown hgrow (Nat.le_refl _) (fun k hk => by cases hk)
    clear hsz hgrow
    rw [rowF_zero] at hrow
    go_wp2_with fail
    go_loopw [4] (fun v wr => ∃ k : Nat, k ≤ n ∧ v = .int .i64 k ∧ RowAt wr 5 w.heap.size 0 n (rowF .u8 n (fun i => if i < k then zs.getD i 0 else 0)) ∧ Below w.heap.size w wr) (fun v _ => n - (intOf v).toNat)
    case atStart => exact ⟨0, Nat.zero_le _, rfl, hrow, hb1⟩
    case round =>
      clear hrow hb1
      obtain ⟨k, hk, rfl, hr, hbl⟩ := hrel
      by_cases hlt : k < n
      · obtain ⟨b, off, had, hc, hwf⟩ := h0.at hlt
        cases had
        have hc' := (hbl.cell (World.block_lt_of_cell? _ _ hc)).trans hc
        have hfr := hr.frozen k
        obtain ⟨z0, hcc⟩ : ∃ c0, wr.cell? ⟨w.heap.size, 0 + k, none⟩ = some c0 := ⟨_, hr.cell_some (rowF_at _ _ hlt)⟩
        simp only [Nat.zero_add] at hcc
        obtain ⟨z, hz⟩ : ∃ z, z = zs.getD k 0 := ⟨_, rfl⟩
        rw [← hz] at hc'
        have Hz := hid hz
        clear hz hc hwf
        go_wp2
        go_roundw
        case rel =>
          refine ⟨k + 1, by omega, by go_num, ?_, hbl.setCell (Nat.le_refl _) _⟩
          have hst := hr.stored k (.int .u8 z)
          rw [Nat.zero_add, rowF_set .u8 _ (fun i => if i < k + 1 then zs.getD i 0 else 0) z (by rw [if_pos (by omega)]; exact Hz.out.symm) (fun j _ hne => by
            by_cases e : j < k
            · rw [if_pos e, if_pos (by omega)]
            · rw [if_neg e, if_neg (by omega)])] at hst
          exact hst
        case measure => simp [intOf]; omega
      · have hr' : RowAt wr 5 w.heap.size 0 n (zs.map (Value.int .u8)) := by
          have h := hr
          rw [rowF_congr .u8 (g := fun i => zs.getD i 0) (fun i hi => by rw [if_pos (by omega)])] at h
          rw [rowF_of_list, h0.len]
          exact h
        clear hr
        go_wp2
        go_ret
        refine ⟨_, _, rfl, ?_, hbl⟩
        have h := Rd.of_row hr' (fun x hx => by
          obtain ⟨j, hj⟩ := List.mem_iff_getElem?.1 hx
          obtain ⟨_, _, _, _, h⟩ := h0.cells j x hj
          exact h)
        rw [h0.len] at h
        exact h

end Go.Proofs.Qxb6601535a
