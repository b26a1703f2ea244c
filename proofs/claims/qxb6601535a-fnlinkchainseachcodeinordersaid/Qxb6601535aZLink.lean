/-
  ZZLink, walked.
-/
import Derived.Test.Qxb6601535aLink
import Derived.Test.Qxb6601535aSmall
namespace Go.Proofs.Qxb6601535a
open Go.RowKit Go.Proofs.Qxb6601535a.Link

set_option maxHeartbeats 1000000 in
set_option maxRecDepth 100000 in
theorem zlink26 (a0 : Option Addr) (n c0 : Nat) (cd : List Int) (a1 : Option Addr) (c1 : Nat) (nx : List Int) (first count : Nat) (w : World) (h0 : Rd w .u64 a0 n cd) (h1 : Rd w .i64 a1 n nx) (hn : n ≤ 65536) (hfc : first + count ≤ n)
    (hb : ∀ j, j < count → cd.getD (first + j) 0 ≤ 255) :
    Calls Try.prog 26 #[.slice a0 n c0, .slice a1 n c1, .int .i64 first, .int .i64 count] w fun e w' => ∃ g1 g2, e = .returned (.tuple #[.slice (some ⟨g1, 0, none⟩) n n, .slice (some ⟨g2, 0, none⟩) n n]) ∧
      RowAt w' 30 g1 0 n (rowF .u64 n (fun i => cd.getD i 0)) ∧ RowAt w' 3 g2 0 n (rowF .i64 n (fin (csOf cd first) first count (fun i => nx.getD i 0))) ∧ Below w.heap.size w w' := by
  obtain ⟨i0, hi, hz0, hz1, hz2⟩ := info_parts Try.info3
  obtain ⟨j0, hj, hy0, hy1, hy2⟩ := info_parts Try.info30
  go_enter Try.func26, Try.ntmps26
  go_wp2_with (at_make; refine wpList_make_opts _ rfl _ _ rfl _ _ _ _ n rfl rfl rfl rfl (by omega) ?_)
  intro w1 hrow hgrow hsz
  have hb1 : Below w.heap.size w w1 := (Below.refl _ _).grown hgrow (Nat.le_refl _) (fun k hk => by cases hk)
  clear hgrow
  go_wp2_with fail
  obtain ⟨ob, hob⟩ : ∃ ob, ob = (Obj.cells #[.slice none 0 0, .slice none 0 0, .slice none 0 0, .slice (some ⟨w.heap.size, 0, none⟩) n n, .slice none 0 0, .slice none 0 0, .int .u64 0] 58) := ⟨_, rfl⟩
  have hm0 : (w1.alloc ob).cell? ⟨w.heap.size + 1, 3, none⟩ = some (.slice (some ⟨w.heap.size, 0, none⟩) n n) := by
    rw [← hsz, hob]
    simp
  have ho0 : Opts (w1.alloc ob) w.heap.size n (fun _ => 0) (fun _ => 0) := RowAt.alloc hrow _
  have hbl0 := hb1.alloc hb1.size ob
  rw [← hob]
  clear hsz hob hrow hb1
  generalize w1.alloc ob = wB at *
  go_loopw [11] (fun v ws => ∃ k : Nat, k ≤ n ∧ v = .int .i64 k ∧ Opts ws w.heap.size n (fun i => if i < k then cd.getD i 0 else 0) (fun i => if i < k then nx.getD i 0 else 0) ∧ ws.cell? ⟨w.heap.size + 1, 3, none⟩ = some (.slice (some ⟨w.heap.size, 0, none⟩) n n) ∧ Below w.heap.size w ws) (fun v _ => n - (intOf v).toNat)
  case atStart => exact ⟨0, Nat.zero_le _, rfl, ho0, hm0, hbl0⟩
  case round =>
    clear hm0 ho0 hbl0
    obtain ⟨k, hk, rfl, ho, hm, hbl⟩ := hrel
    by_cases hlt : k < n
    · obtain ⟨b, off, rfl, hc, hwf⟩ := h0.at hlt
      obtain ⟨b', off', rfl, hd, hwd⟩ := h1.at hlt
      have hbw := World.block_lt_of_cell? _ _ hc
      have hbd := World.block_lt_of_cell? _ _ hd
      have hc' := (hbl.cell hbw).trans hc
      have hd' := (hbl.cell hbd).trans hd
      have k0 := ho.code hlt
      have k5 := ho.next hlt
      have f0 := RowAt.frozen ho (k * 7)
      have f5 := RowAt.frozen ho (k * 7 + 5)
      obtain ⟨z0, e0⟩ : ∃ z, wr.cell? ⟨w.heap.size, k * 7, none⟩ = some z := ⟨_, k0⟩
      obtain ⟨z5, e5⟩ : ∃ z, wr.cell? ⟨w.heap.size, k * 7 + 5, none⟩ = some z := ⟨_, k5⟩
      obtain ⟨y, hy⟩ : ∃ y, y = cd.getD k 0 := ⟨_, rfl⟩
      obtain ⟨x, hx⟩ : ∃ x, x = nx.getD k 0 := ⟨_, rfl⟩
      rw [← hy] at hc'
      rw [← hx] at hd'
      have Hy := hid hy
      have Hx := hid hx
      have hbne : b ≠ w.heap.size := by show b ≠ w.heap.size; have h : b < w.heap.size := hbw; omega
      have hdne : b' ≠ w.heap.size := by have h : b' < w.heap.size := hbd; omega
      clear hy hx hc hd hwf hwd k0 k5 hbw hbd
      go_wp2_with fail
      go_region
      go_wp2_with fail
      go_region
      go_wp2
      go_roundw
      case rel =>
        refine ⟨k + 1, by omega, by go_num, ?_, ?_, (((hbl.setCell (Nat.le_refl _) _).setCell (Nat.le_refl _) _).drew).drew⟩
        · have hst := (ho.setCode (i := k) y (fun i => if i < k + 1 then cd.getD i 0 else 0) (by rw [if_pos (by omega)]; exact Hy.out.symm) (fun j hj => by
            by_cases e : j < k
            · rw [if_pos e, if_pos (by omega)]
            · rw [if_neg e, if_neg (by omega)])).setNext (i := k) x (fun i => if i < k + 1 then nx.getD i 0 else 0) (by rw [if_pos (by omega)]; exact Hx.out.symm) (fun j hj => by
            by_cases e : j < k
            · rw [if_pos e, if_pos (by omega)]
            · rw [if_neg e, if_neg (by omega)])
          exact RowAt.drew (RowAt.drew hst)
        · exact cell_set_far (cell_set_far hm (by show w.heap.size + 1 ≠ w.heap.size; omega)) (by show w.heap.size + 1 ≠ w.heap.size; omega)
      case measure => simp [intOf]; omega
    · have ho' : Opts wr w.heap.size n (fun i => cd.getD i 0) (fun i => nx.getD i 0) := ho.congr (fun i hi => by rw [if_pos (by omega)]) (fun i hi => by rw [if_pos (by omega)])
      have hcs : ∀ j, j < count → cd.getD (first + j) 0 = (csOf cd first j : Int) ∧ csOf cd first j < 256 := fun j hj => by
        obtain ⟨_, _, _, _, hwf⟩ := h0.at (j := first + j) (by omega)
        have h2 := (bounds_u64 hwf).1
        have h3 := hb j hj
        unfold csOf
        omega
      have hcall := link33 (w.heap.size + 1) w.heap.size n first count _ _ wr hm ho' hn hfc (csOf cd first) hcs
      clear ho hcs hb
      go_wp2_with (first
        | (go_at_call 33
           refine hcall.mono ?_
           rintro e w2 ⟨rfl, ho2, hg2⟩
           have hm2 := gb_cell hg2 hm (by show w.heap.size + 1 ≠ w.heap.size; omega)
           have hb2 : Below w.heap.size w w2 := hbl.grown hg2 hbl.size (fun k hk => by cases hk; exact Nat.le_refl _)
           clear hcall ho' hg2 hm hbl)
        | (at_make
           refine wpList_make_row _ rfl _ _ 39 rfl j0 (.int .u64 0) Try.underlying39 hj hy0 hy1 rfl _ _ _ _ n rfl rfl rfl rfl (by rw [hy2]; omega) (by unfold maxLen; omega) ?_
           intro w3 hr3 hg3 hs3
           have hl2 := World.block_lt_of_cell? _ _ hm2
           have hm3 := (hg3.cell_far _ hl2 (by simp)).trans hm2
           have ho3 := RowAt.kept ho2 hg3 (by simp)
           have hb3 := hb2.grown hg3 hb2.size (fun k hk => by cases hk)
           obtain ⟨q1, hq1⟩ : ∃ q, q = w2.heap.size := ⟨_, rfl⟩
           rw [← hq1] at hr3 hl2 ⊢
           rw [rowF_zero] at hr3
           clear hq1 hs3 hg3 hm2 ho2 hb2)
        | (at_make
           refine wpList_make_row _ rfl _ _ 40 rfl i0 (.int .i64 0) Try.underlying40 hi hz0 hz1 rfl _ _ _ _ n rfl rfl rfl rfl (by rw [hz2]; omega) (by unfold maxLen; omega) ?_
           intro w4 hr4 hg4 hs4
           have hm4 := (hg4.cell_far _ (World.block_lt_of_cell? _ _ hm3) (by simp)).trans hm3
           have ho4 := RowAt.kept ho3 hg4 (by simp)
           have hr3' := hr3.kept hg4 (by simp)
           have hq12 := hr3.lt
           have hb4 := hb3.grown hg4 hb3.size (fun k hk => by cases hk)
           obtain ⟨q2, hq2⟩ : ∃ q, q = w3.heap.size := ⟨_, rfl⟩
           rw [← hq2] at hr4 hq12 ⊢
           rw [rowF_zero] at hr4
           clear hq2 hs4 hg4 hm3 ho3 hr3 hb3))
      go_loopw [14] (fun v ws => ∃ k : Nat, k ≤ n ∧ v = .int .i64 k ∧ Opts ws w.heap.size n (fun i => cd.getD i 0) (fin (csOf cd first) first count fun i => nx.getD i 0) ∧ ws.cell? ⟨w.heap.size + 1, 3, none⟩ = some (.slice (some ⟨w.heap.size, 0, none⟩) n n) ∧
        RowAt ws 30 q1 0 n (rowF .u64 n (fun i => if i < k then cd.getD i 0 else 0)) ∧ RowAt ws 3 q2 0 n (rowF .i64 n (fun i => if i < k then fin (csOf cd first) first count (fun i => nx.getD i 0) i else 0)) ∧ Below w.heap.size w ws) (fun v _ => n - (intOf v).toNat)
      case atStart => exact ⟨0, Nat.zero_le _, rfl, ho4, hm4, hr3', hr4, hb4⟩
      case round =>
        clear ho4 hm4 hr3' hr4 hb4
        obtain ⟨i, hi2, rfl, ho5, hm5, hu, hv, hb5⟩ := hrel
        by_cases hlt5 : i < n
        · have k0 := ho5.code hlt5
          have k5 := ho5.next hlt5
          obtain ⟨y, hy⟩ : ∃ y, y = cd.getD i 0 := ⟨_, rfl⟩
          obtain ⟨x, hx⟩ : ∃ x, x = fin (csOf cd first) first count (fun i => nx.getD i 0) i := ⟨_, rfl⟩
          rw [← hy] at k0
          rw [← hx] at k5
          have fu := hu.frozen i
          have fv := hv.frozen i
          obtain ⟨z1, e1⟩ : ∃ z, wr.cell? ⟨q1, 0 + i, none⟩ = some z := ⟨_, hu.cell_some (rowF_at _ _ hlt5)⟩
          obtain ⟨z2, e2⟩ : ∃ z, wr.cell? ⟨q2, 0 + i, none⟩ = some z := ⟨_, hv.cell_some (rowF_at _ _ hlt5)⟩
          simp only [Nat.zero_add] at e1 e2
          have Hy := hid hy
          have Hx := hid hx
          have n1 : w.heap.size ≠ q1 := by omega
          have n2 : w.heap.size + 1 ≠ q1 := by omega
          have n3 : q2 ≠ q1 := by omega
          clear hy hx
          go_wp2
          go_roundw
          case rel =>
            refine ⟨i + 1, by omega, by go_num, RowAt.other (RowAt.other ho5 n1 _) (by show w.heap.size ≠ q2; omega) _, cell_set_far (cell_set_far hm5 n2) (by show w.heap.size + 1 ≠ q2; omega), ?_, ?_, (hb5.setCell (by show w.heap.size ≤ q1; omega) _).setCell (by show w.heap.size ≤ q2; omega) _⟩
            · have hst := hu.stored i (.int .u64 y)
              rw [Nat.zero_add, rowF_set .u64 (i := i) _ (fun j => if j < i + 1 then cd.getD j 0 else 0) y (by rw [if_pos (by omega)]; exact Hy.out.symm) (fun j _ hne => by
                by_cases e : j < i
                · rw [if_pos e, if_pos (by omega)]
                · rw [if_neg e, if_neg (by omega)])] at hst
              exact hst.other (by show q1 ≠ q2; omega) _
            · have hst := (hv.other (a := ⟨q1, i, none⟩) (by show q2 ≠ q1; omega) (.int .u64 y)).stored i (.int .i64 x)
              rw [Nat.zero_add, rowF_set .i64 (i := i) _ (fun j => if j < i + 1 then fin (csOf cd first) first count (fun i => nx.getD i 0) j else 0) x (by rw [if_pos (by omega)]; exact Hx.out.symm) (fun j _ hne => by
                by_cases e : j < i
                · rw [if_pos e, if_pos (by omega)]
                · rw [if_neg e, if_neg (by omega)])] at hst
              exact hst
          case measure => simp [intOf]; omega
        · have hu' : RowAt wr 30 q1 0 n (rowF .u64 n (fun i => cd.getD i 0)) := by
            have h := hu
            rw [rowF_congr .u64 (g := fun i => cd.getD i 0) (fun j hj => by rw [if_pos (by omega)])] at h
            exact h
          have hv' : RowAt wr 3 q2 0 n (rowF .i64 n (fin (csOf cd first) first count (fun i => nx.getD i 0))) := by
            have h := hv
            rw [rowF_congr .i64 (g := fin (csOf cd first) first count (fun i => nx.getD i 0)) (fun j hj => by rw [if_pos (by omega)])] at h
            exact h
          clear hu hv ho5
          go_wp2
          go_ret2
          exact ⟨_, _, rfl, hu', hv', hb5⟩

end Go.Proofs.Qxb6601535a
