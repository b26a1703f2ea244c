/-
  unsigned, zzEncodesB1, zzSameBytesB1, zzPutBigEndianB1, zzNextRefusedB1, headerSize, walked.
-/
import Derived.Test.Qxb6601535aLink
import Derived.Test.Qxb6601535aSmall
import Derived.Test.Qxb6601535aBe
namespace Go.Proofs.Qxb6601535a
open Go.RowKit Go.Proofs.Qxb6601535a.Be

theorem Rd.drewN {w : World} {k : IntKind} {a : Option Addr} {n : Nat} {zs : List Int} (h : Rd w k a n zs) (q : Nat) : Rd (w.drewN q) k a n zs := ⟨h.len, h.max, h.cells⟩
theorem below_drewN {B : Nat} {a b : World} (h : Below B a b) (q : Nat) : Below B a (b.drewN q) := ⟨h.os, h.tape, h.output, h.size, h.block⟩

theorem Rd.byt {w : World} {a : Option Addr} {n : Nat} {zs : List Int} (h : Rd w .u8 a n zs) : Byt zs := by
  intro j
  by_cases hj : j < n
  · obtain ⟨_, _, _, _, hwf⟩ := h.at hj
    have := bounds_u8 hwf
    omega
  · rw [show zs.getD j 0 = 0 by simp [List.getD, List.getElem?_eq_none (show zs.length ≤ j by rw [h.len]; omega)]]
    omega

theorem Rd.nothing (w : World) (k : IntKind) (a : Option Addr) : Rd w k a 0 [] := ⟨rfl, by simp [maxLen], fun j x hx => by simp at hx⟩

theorem Rd.sub {w : World} {k : IntKind} {b off n : Nat} {zs : List Int} (h : Rd w k (some ⟨b, off, none⟩) n zs) (i l : Nat) (hl : i + l ≤ n) : Rd w k (some ⟨b, off + i, none⟩) l ((zs.drop i).take l) := by
  have hlen := h.len
  have hmax := h.max
  refine ⟨by rw [List.length_take, List.length_drop]; omega, by omega, fun j x hx => ?_⟩
  by_cases hj : j < l
  · simp only [List.getElem?_take, hj, if_true, List.getElem?_drop] at hx
    obtain ⟨b', off', e, hc, hw⟩ := h.cells (i + j) x hx
    cases e
    exact ⟨b, off + i, rfl, by rw [Nat.add_assoc]; exact hc, hw⟩
  · simp only [List.getElem?_take, hj, if_false] at hx
    cases hx

set_option maxHeartbeats 1000000 in
set_option maxRecDepth 100000 in
theorem unsigned38 (a : Option Addr) (n c : Nat) (bs : List Int) (w : World) (h : Rd w .u8 a n bs) (h8 : n ≤ 8) :
    Calls Try.prog 38 #[.slice a n c] w fun e w' => e = .returned (.int .u64 (be bs : Int)) ∧ w' = w := by
  have hbyt := h.byt
  go_enter Try.func38, Try.ntmps38
  go_wp2_with fail
  go_loopw [3, 8] (fun u v ws => ws = w ∧ ∃ k : Nat, k ≤ n ∧ v = .int .i64 k ∧ u = .int .u64 (be (bs.take k) : Int)) (fun _ v _ => n - (intOf v).toNat)
  case atStart => exact ⟨rfl, 0, Nat.zero_le _, rfl, rfl⟩
  case round =>
    obtain ⟨rfl, k, hk, rfl, rfl⟩ := hrel
    by_cases hlt : k < n
    · obtain ⟨b, off, rfl, hc, hwf⟩ := h.at hlt
      have hl : k < bs.length := by rw [h.len]; exact hlt
      have hs := be_take_succ bs hl
      have hlt2 := be_take_lt hbyt (Nat.le_of_lt hl)
      have hp : 256 ^ k * 256 ≤ 18446744073709551616 := by
        have := pow_le_8 (k := k + 1) (by omega)
        rwa [Nat.pow_succ] at this
      have hz := hbyt k
      obtain ⟨x, hx⟩ : ∃ x : Nat, bs.getD k 0 = x := ⟨(bs.getD k 0).toNat, by omega⟩
      rw [hx] at hc hz hs
      obtain ⟨u, hu⟩ : ∃ u, u = be (bs.take k) := ⟨_, rfl⟩
      rw [← hu] at hs hlt2 ⊢
      have hxb : x < 256 := by omega
      have hub : u * 256 < 18446744073709551616 := by
        generalize 256 ^ k = Y at *
        omega
      have hor := or_byte hub hxb
      have Hs := hid hs
      clear hs hu hx hwf hlt2 hp
      go_wp2
      go_roundw
      case rel =>
        refine ⟨trivial, k + 1, by omega, by go_num, ?_⟩
        rw [Hs.out, Int.toNat_natCast]
        rw [Int.natCast_mul] at hor
        exact congrArg (Value.int .u64) hor
      case measure => simp [intOf]; omega
    · go_wp2
      go_ret
      refine ⟨?_, rfl⟩
      show Ending.returned (.int .u64 (be (bs.take k) : Int)) = _
      rw [List.take_of_length_le (by rw [h.len]; omega)]

set_option maxHeartbeats 1000000 in
set_option maxRecDepth 100000 in
theorem same20 (a : Option Addr) (n c : Nat) (a' : Option Addr) (c' : Nat) (bs : List Int) (w : World) (h : Rd w .u8 a n bs) (h' : Rd w .u8 a' n bs) :
    Calls Try.prog 20 #[.slice a n c, .slice a' n c'] w fun e w' => e = .returned (.bool true) ∧ ∃ q, w' = w.drewN q := by
  have hm := h.max
  unfold maxLen at hm
  go_enter Try.func20, Try.ntmps20
  go_wp2_with fail
  go_loopw [5] (fun v ws => (∃ q, ws = w.drewN q) ∧ ∃ k : Nat, k ≤ n ∧ v = .int .i64 k) (fun v _ => n - (intOf v).toNat)
  case atStart => exact ⟨⟨0, rfl⟩, 0, Nat.zero_le _, rfl⟩
  case round =>
    obtain ⟨⟨q, rfl⟩, k, hk, rfl⟩ := hrel
    by_cases hlt : k < n
    · obtain ⟨b, off, rfl, hc, hwf⟩ := h.at hlt
      obtain ⟨b', off', rfl, hc', _⟩ := h'.at hlt
      obtain ⟨x, hx⟩ : ∃ x, x = bs.getD k 0 := ⟨_, rfl⟩
      rw [← hx] at hc hc'
      clear hx hwf
      go_wp2_with (go_quiet (fail))
      go_roundw
      case rel => exact ⟨⟨_, rfl⟩, k + 1, by omega, by go_num⟩
      case measure => simp [intOf]; omega
    · go_wp2
      go_ret
      exact ⟨rfl, q, rfl⟩

set_option maxHeartbeats 1000000 in
set_option maxRecDepth 100000 in
theorem enc19 (a : Option Addr) (n c : Nat) (bs : List Int) (v : Nat) (w : World) (h : Rd w .u8 a n bs) (hv : v < 18446744073709551616) :
    Calls Try.prog 19 #[.slice a n c, .int .u64 v] w fun e w' => e = .returned (.bool (decide (be bs = v))) ∧ w' = w := by
  have hbyt := h.byt
  have hm := h.max
  unfold maxLen at hm
  go_enter Try.func19, Try.ntmps19
  go_wp2_with fail
  go_loopw [1, 5] (fun u i ws => ws = w ∧ ∃ t V : Nat, t ≤ n ∧ i = .int .i64 ((t : Int) - 1) ∧ u = .int .u64 V ∧ V < 18446744073709551616 ∧ (be bs = v ↔ be (bs.take t) = V)) (fun _ i _ => (intOf i + 1).toNat)
  case atStart => exact ⟨rfl, n, v, Nat.le_refl _, rfl, rfl, hv, by rw [List.take_of_length_le (by rw [h.len]; omega)]⟩
  case round =>
    obtain ⟨rfl, t, V, ht, rfl, rfl, hV, hiff⟩ := hrel
    have Hiff := hid hiff
    clear hiff
    by_cases ht0 : t = 0
    · subst ht0
      rw [show (((0 : Nat) : Int) - 1) = -1 by omega]
      go_wp2
      go_ret
      refine ⟨?_, rfl⟩
      have hi := Hiff.out
      rw [be_take_zero] at hi
      by_cases hz : V = 0
      · subst hz
        show Ending.returned (.bool _) = _
        simp [hi]
      · have : ¬ be bs = v := fun e => hz (hi.1 e).symm
        show Ending.returned (.bool _) = _
        simp [this, hz]
    · obtain ⟨s, rfl⟩ : ∃ s, t = s + 1 := ⟨t - 1, by omega⟩
      rw [show (((s + 1 : Nat) : Int) - 1) = (s : Int) by omega]
      have hsn : s < n := by omega
      obtain ⟨b, off, rfl, hc, hwf⟩ := h.at hsn
      have hl : s < bs.length := by rw [h.len]; exact hsn
      have hst := enc_step hbyt hl V
      obtain ⟨x, hx⟩ : ∃ x, x = bs.getD s 0 := ⟨_, rfl⟩
      rw [← hx] at hc hst
      have Hst := hid hst
      clear hst hx hwf
      by_cases hxe : x = (V : Int) % 256
      · have hne : (x != (V : Int) % 256) = false := by simp [hxe]
        have Hxe := hid hxe
        clear hxe
        go_wp2
        go_roundw
        case rel =>
          refine ⟨trivial, s, V / 256, by omega, rfl, congrArg (Value.int .u64) (by omega), by omega, ?_⟩
          rw [Hiff.out, Hst.out]
          exact ⟨fun h => h.2, fun h => ⟨by rw [Hxe.out]; omega, h⟩⟩
        case measure => simp [intOf]
      · have hne : (x != (V : Int) % 256) = true := by simpa using hxe
        have Hxe := hid hxe
        clear hxe
        go_wp2
        go_ret
        refine ⟨?_, rfl⟩
        have : ¬ be bs = v := fun e => Hxe.out (by rw [(Hst.out.1 (Hiff.out.1 e)).1]; omega)
        show Ending.returned (.bool _) = _
        simp [this]

def putF (F : Nat → Int) (off len v t : Nat) (i : Nat) : Int := if off + t ≤ i ∧ i < off + len then ((v / 256 ^ (off + len - 1 - i) % 256 : Nat) : Int) else F i

set_option maxHeartbeats 1000000 in
set_option maxRecDepth 100000 in
theorem put22 (g off N len v : Nat) (a : Option Addr) (c : Nat) (F : Nat → Int) (w : World) (hr : RowAt w 5 g 0 N (rowF .u8 N F)) (ha : len = 0 ∨ a = some ⟨g, off, none⟩) (hl : off + len ≤ N) (hN : N ≤ 1073741824) (hv : v < 18446744073709551616) :
    Calls Try.prog 22 #[.slice a len c, .int .u64 v] w fun e w' => e = .returned (.tuple #[]) ∧ RowAt w' 5 g 0 N (rowF .u8 N (putF F off len v 0)) ∧ w.grownBy w' (some g) := by
  go_enter Try.func22, Try.ntmps22
  go_wp2_with fail
  go_loopw [1, 4] (fun u i ws => ∃ t V : Nat, t ≤ len ∧ i = .int .i64 ((t : Int) - 1) ∧ u = .int .u64 V ∧ V < 18446744073709551616 ∧ V = v / 256 ^ (len - t) ∧ RowAt ws 5 g 0 N (rowF .u8 N (putF F off len v t)) ∧ w.grownBy ws (some g)) (fun _ i _ => (intOf i + 1).toNat)
  case atStart =>
    refine ⟨len, v, Nat.le_refl _, rfl, rfl, hv, by rw [Nat.sub_self, Nat.pow_zero, Nat.div_one], ?_, gb_refl _ _⟩
    rw [rowF_congr .u8 (g := F) (fun i _ => by unfold putF; rw [if_neg (by omega)])]
    exact hr
  case round =>
    clear hr
    obtain ⟨t, V, ht, rfl, rfl, hV, hVe, hr, hg⟩ := hrel
    have HV := hid hVe
    clear hVe
    by_cases ht0 : t = 0
    · subst ht0
      rw [show (((0 : Nat) : Int) - 1) = -1 by omega]
      go_wp2
      go_end0
      exact ⟨rfl, hr, hg⟩
    · obtain ⟨s, rfl⟩ : ∃ s, t = s + 1 := ⟨t - 1, by omega⟩
      rw [show (((s + 1 : Nat) : Int) - 1) = (s : Int) by omega]
      have hsn : s < len := by omega
      obtain rfl : a = some ⟨g, off, none⟩ := by
        rcases ha with h | h
        · omega
        · exact h
      have hcN : off + s < N := by omega
      obtain ⟨z, hz⟩ : ∃ z, wr.cell? ⟨g, 0 + (off + s), none⟩ = some z := ⟨_, hr.cell_some (rowF_at _ _ hcN)⟩
      have hf := hr.frozen (off + s)
      simp only [Nat.zero_add] at hz
      go_wp2
      go_roundw
      case rel =>
        refine ⟨s, V / 256, by omega, rfl, congrArg (Value.int .u64) (by omega), by omega, ?_, ?_, gb_set hg _ _ (.inl rfl)⟩
        · rw [HV.out, show len - s = (len - (s + 1)) + 1 by omega, Nat.pow_succ, Nat.div_div_eq_div_mul]
        · have hst := hr.stored (off + s) (.int .u8 ((V : Int) % 256))
          rw [Nat.zero_add, rowF_set .u8 (i := off + s) _ (putF F off len v s) ((V : Int) % 256) (by
            unfold putF
            rw [if_pos (by omega), HV.out, show off + len - 1 - (off + s) = len - (s + 1) by omega]
            generalize v / 256 ^ (len - (s + 1)) = X
            omega) (fun j _ hne => by
            unfold putF
            by_cases e : off + (s + 1) ≤ j ∧ j < off + len
            · rw [if_pos (by omega), if_pos e]
            · rw [if_neg (by omega), if_neg e])] at hst
          exact hst
      case measure => simp [intOf]

set_option maxHeartbeats 1000000 in
set_option maxRecDepth 100000 in
theorem refused18 (w : World) : Calls Try.prog 18 #[.int .u64 0, .slice none 0 0, .slice none 0 0, .bool false] w fun e w' => e = .returned (.bool true) ∧ w' = w := by
  have e0 := fun w => Lib.run_eql_slice_nil (P := Try.prog) w 27 5 none 0 0 0 0 Try.underlying27
  go_enter Try.func18, Try.ntmps18
  go_wp2
  go_ret
  exact ⟨rfl, rfl⟩

set_option maxHeartbeats 1000000 in
set_option maxRecDepth 100000 in
theorem header37 (cs ls : Nat) (p j : Bool) (w : World) (hc : cs ≤ 8) (hl : ls ≤ 8) : Calls Try.prog 37 #[.agg #[.int .i64 cs, .int .i64 ls, .bool p, .bool j]] w fun e w' => e = .returned (.int .i64 ((cs + ls : Nat) : Int)) ∧ Below w.heap.size w w' := by
  go_enter Try.func37, Try.ntmps37
  go_wp2
  go_ret
  exact ⟨rfl, (Below.refl _ _).alloc (Nat.le_refl _) _⟩

end Go.Proofs.Qxb6601535a
