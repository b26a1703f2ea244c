/-
  FnLinkChainsEachCodeInOrder, walked.
-/
import Derived.Test.Qxb6601535aZLink
namespace Go.Proofs.Qxb6601535a
open Go.RowKit Go.Proofs.Qxb6601535a.Link

theorem Rd.drewN {w : World} {k : IntKind} {a : Option Addr} {n : Nat} {zs : List Int} (h : Rd w k a n zs) (q : Nat) : Rd (w.drewN q) k a n zs := ⟨h.len, h.max, h.cells⟩
theorem below_drewN {B : Nat} {a b : World} (h : Below B a b) (q : Nat) : Below B a (b.drewN q) := ⟨h.os, h.tape, h.output, h.size, h.block⟩

set_option maxHeartbeats 2000000 in
set_option maxRecDepth 100000 in
theorem law8 (a0 : Option Addr) (n c0 : Nat) (cd : List Int) (a1 : Option Addr) (m c1 : Nat) (nx : List Int) (fi ci : Int) (w : World) (h0 : Rd w .u64 a0 n cd) (h1 : Rd w .i64 a1 m nx) (w2 : (Lit.int .i64 fi).wf = true) (w3 : (Lit.int .i64 ci).wf = true) :
    Calls Try.prog 8 #[.slice a0 n c0, .slice a1 m c1, .int .i64 fi, .int .i64 ci] w fun e w' => e = .returned (.bool true) ∧ Below w.heap.size w w' := by
  have hn := h0.max
  have hm := h1.max
  have bf := bounds_i64 w2
  have bc := bounds_i64 w3
  have hcall := bytes23 a0 n c0 a1 m c1 fi ci w hn hm
  unfold maxLen at hn hm
  clear w2 w3
  by_cases t1 : n ≤ 65536
  case neg =>
    go_enter Try.func8, Try.ntmps8
    go_wp2_with (go_at_call 23; refine hcall.mono ?_; rintro e wq ⟨⟨b, rfl⟩, rfl⟩; cases b)
    all_goals (go_ret; exact ⟨rfl, Below.refl _ _⟩)
  by_cases t2 : m ≤ 65536
  case neg =>
    go_enter Try.func8, Try.ntmps8
    go_wp2_with (go_at_call 23; refine hcall.mono ?_; rintro e wq ⟨⟨b, rfl⟩, rfl⟩; cases b)
    all_goals (go_ret; exact ⟨rfl, Below.refl _ _⟩)
  by_cases t3 : m = n
  case neg =>
    have t3' : ((m : Int) != (n : Int)) = true := by simp; omega
    go_enter Try.func8, Try.ntmps8
    go_wp2_with (go_at_call 23; refine hcall.mono ?_; rintro e wq ⟨⟨b, rfl⟩, rfl⟩; cases b)
    all_goals (go_ret; exact ⟨rfl, Below.refl _ _⟩)
  subst t3
  by_cases t4 : 0 ≤ fi
  case neg =>
    go_enter Try.func8, Try.ntmps8
    go_wp2_with (go_at_call 23; refine hcall.mono ?_; rintro e wq ⟨⟨b, rfl⟩, rfl⟩; cases b)
    all_goals (go_ret; exact ⟨rfl, Below.refl _ _⟩)
  by_cases t5 : 0 ≤ ci
  case neg =>
    go_enter Try.func8, Try.ntmps8
    go_wp2_with (go_at_call 23; refine hcall.mono ?_; rintro e wq ⟨⟨b, rfl⟩, rfl⟩; cases b)
    all_goals (go_ret; exact ⟨rfl, Below.refl _ _⟩)
  by_cases t6 : fi ≤ m
  case neg =>
    go_enter Try.func8, Try.ntmps8
    go_wp2_with (go_at_call 23; refine hcall.mono ?_; rintro e wq ⟨⟨b, rfl⟩, rfl⟩; cases b)
    all_goals (go_ret; exact ⟨rfl, Below.refl _ _⟩)
  by_cases t7 : ci ≤ (m : Int) - fi
  case neg =>
    go_enter Try.func8, Try.ntmps8
    go_wp2_with (go_at_call 23; refine hcall.mono ?_; rintro e wq ⟨⟨b, rfl⟩, rfl⟩; cases b)
    all_goals (go_ret; exact ⟨rfl, Below.refl _ _⟩)
  obtain ⟨f, rfl⟩ : ∃ f : Nat, fi = f := ⟨fi.toNat, by omega⟩
  obtain ⟨c, rfl⟩ : ∃ c : Nat, ci = c := ⟨ci.toNat, by omega⟩
  have hfc : f + c ≤ m := by omega
  go_enter Try.func8, Try.ntmps8
  go_wp2_with (go_at_call 23; refine hcall.mono ?_; rintro e wq ⟨⟨b, rfl⟩, rfl⟩; cases b)
  · go_ret
    exact ⟨rfl, Below.refl _ _⟩
  · clear hcall t4 t5 t6 t7 bf bc hn hm
    go_loopw [9] (fun v ws => ws = wq ∧ ∃ k : Nat, k ≤ c ∧ v = .int .i64 ((f + k : Nat) : Int) ∧ ∀ j, j < k → cd.getD (f + j) 0 ≤ 255) (fun v _ => (f + c) - (intOf v).toNat)
    case atStart => exact ⟨rfl, 0, Nat.zero_le _, rfl, fun j hj => by omega⟩
    case round =>
      obtain ⟨rfl, k, hk, rfl, hle⟩ := hrel
      have Hle := hid hle
      clear hle
      by_cases hlt : k < c
      · obtain ⟨b, off, rfl, hc, hwf⟩ := h0.at (j := f + k) (by omega)
        have hlt2 : f + k < f + c := by omega
        have hltm : f + k < m := by omega
        obtain ⟨z, hz⟩ : ∃ z, z = cd.getD (f + k) 0 := ⟨_, rfl⟩
        rw [← hz] at hc
        have Hz := hid hz
        clear hz hwf
        by_cases hzb : z ≤ 255
        · go_wp2
          go_roundw
          case rel =>
            refine ⟨trivial, k + 1, by omega, by go_num, ?_⟩
            intro j hj
            by_cases e : j = k
            · rw [e, ← Hz.out]; exact hzb
            · exact Hle.out j (by omega)
          case measure => simp [intOf]; omega
        · go_wp2
          go_ret
          exact ⟨rfl, Below.refl _ _⟩
      · obtain rfl : k = c := by omega
        have Hb := hid Hle.out
        go_wp2_with (first
          | (go_at_call 24
             refine (clone24 a0 m c0 cd _ h0 (by omega)).mono ?_
             rintro e w1 ⟨p0, d0, rfl, r0, b1⟩
             have r1 := h1.below b1)
          | (go_at_call 25
             refine (clone25 a1 m c1 nx _ r1 (by omega)).mono ?_
             rintro e w2 ⟨p1, d1, rfl, s1, b2⟩
             have s0 := r0.below b2)
          | (go_at_call 26
             refine (zlink26 p0 m d0 cd p1 d1 nx f k _ s0 s1 (by omega) (by omega) Hb.out).mono ?_
             rintro e w3 ⟨q1, q2, rfl, u1, u2, b3⟩
             have v0 := s0.below b3
             have v1 := s1.below b3)
          | (go_at_call 27
             refine (model27 p0 m d0 cd p1 d1 nx f k _ v0 v1 (by omega) (by omega) Hb.out).mono ?_
             rintro e w4 ⟨q3, rfl, _, u3, b4⟩
             have x0 := v0.below b4
             have x1 := u1.below b4 u1.lt
             have x2 := u2.below b4 u2.lt
             have hbl := ((b1.trans (b2.mono b1.size)).trans (b3.mono (Nat.le_trans b1.size b2.size))).trans (b4.mono (Nat.le_trans b1.size (Nat.le_trans b2.size b3.size)))
             clear b1 b2 b3 b4 v0 v1 s0 s1 r0 r1 u1 u2))
        go_loopw [13] (fun v ws => ∃ j : Nat, j ≤ m ∧ v = .int .i64 j ∧ Rd ws .u64 p0 m cd ∧ RowAt ws 30 q1 0 m (rowF .u64 m (fun i => cd.getD i 0)) ∧ RowAt ws 3 q2 0 m (rowF .i64 m (fin (csOf cd f) f k (fun i => nx.getD i 0))) ∧ RowAt ws 3 q3 0 m (rowF .i64 m (fin (csOf cd f) f k (fun i => nx.getD i 0))) ∧ Below wr.heap.size wr ws) (fun v _ => m - (intOf v).toNat)
        case atStart => exact ⟨0, Nat.zero_le _, rfl, x0, x1, x2, u3, hbl⟩
        case round =>
          clear x0 x1 x2 u3 hbl
          obtain ⟨j, hj, rfl, x0, x1, x2, x3, hbl⟩ := hrel
          by_cases hjm : j < m
          · obtain ⟨b, off, rfl, hc, hwf⟩ := x0.at hjm
            have y1 := x1.cell_some (rowF_at .u64 (fun i => cd.getD i 0) hjm)
            have y2 := x2.cell_some (rowF_at .i64 (fin (csOf cd f) f k (fun i => nx.getD i 0)) hjm)
            have y3 := x3.cell_some (rowF_at .i64 (fin (csOf cd f) f k (fun i => nx.getD i 0)) hjm)
            simp only [Nat.zero_add] at y1 y2 y3
            obtain ⟨z, hz⟩ : ∃ z, z = cd.getD j 0 := ⟨_, rfl⟩
            obtain ⟨y, hy⟩ : ∃ y, y = fin (csOf cd f) f k (fun i => nx.getD i 0) j := ⟨_, rfl⟩
            rw [← hz] at hc y1
            rw [← hy] at y2 y3
            clear hz hy hwf
            go_wp2_with (go_quiet (fail))
            go_roundw
            case rel => exact ⟨j + 1, by omega, by go_num, x0.drewN _, RowAt.drewN x1 _, RowAt.drewN x2 _, RowAt.drewN x3 _, below_drewN hbl _⟩
            case measure => simp [intOf]; omega
          · go_wp2
            go_ret
            exact ⟨rfl, hbl⟩

end Go.Proofs.Qxb6601535a
