/-
  (*messageIndex).link, walked.
-/
import Derived.Test.Qxb6601535aOpts
import Derived.BigQuiet
import Derived.RegionTactic
import Derived.BigRegion
import Derived.Deep.RegionLaw
import Derived.Deep.AppendLies
namespace Go.Proofs.Qxb6601535a
open Go.RowKit Go.Proofs.Qxb6601535a.Link

theorem gb_refl (a : World) (g : Nat) : a.grownBy a (some g) := ⟨rfl, rfl, rfl, Nat.le_refl _, fun _ _ _ => rfl⟩
theorem gb_alloc {a c : World} {g : Nat} (h : a.grownBy c (some g)) (o : Obj) : a.grownBy (c.alloc o) (some g) :=
  ⟨h.os, h.tape, h.output, Nat.le_trans h.size (by simp), fun k hk hne => (Below.heap_alloc c o k (Nat.lt_of_lt_of_le hk h.size)).trans (h.block k hk hne)⟩
theorem gb_set {a c : World} {g : Nat} (h : a.grownBy c (some g)) (ad : Addr) (u : Value) (hb : ad.block = g ∨ a.heap.size ≤ ad.block) : a.grownBy (c.setCell ad u) (some g) :=
  ⟨h.os, h.tape, h.output, Nat.le_trans h.size (by simp), fun k hk hne => (Below.heap_setCell c ad u k (fun e => by
    rcases hb with hb | hb
    · exact hne (by rw [e, hb])
    · omega)).trans (h.block k hk hne)⟩
theorem gb_drewN {a c : World} {g : Nat} (h : a.grownBy c (some g)) (q : Nat) : a.grownBy (c.drewN q) (some g) := ⟨h.os, h.tape, h.output, h.size, h.block⟩
theorem RowAt.drewN {w : World} {e : TypeId} {g off cap : Nat} {xs : List Value} (h : RowAt w e g off cap xs) (q : Nat) : RowAt (w.drewN q) e g off cap xs := h.of_block rfl
theorem gb_cell {a c : World} {g : Nat} (h : a.grownBy c (some g)) {ad : Addr} {v : Value} (hc : a.cell? ad = some v) (hne : ad.block ≠ g) : c.cell? ad = some v :=
  (h.cell_far ad (World.block_lt_of_cell? _ _ hc) (fun e => hne (by simpa using e))).trans hc

theorem cell_set_far {w : World} {a ad : Addr} {u v : Value} (h : w.cell? a = some v) (hne : a.block ≠ ad.block) : (w.setCell ad u).cell? a = some v := by
  rw [← h]
  unfold World.cell?
  rw [Below.heap_setCell w ad u a.block hne]
theorem cell_alloc_old {w : World} {a : Addr} {v : Value} (h : w.cell? a = some v) (o : Obj) : (w.alloc o).cell? a = some v := by
  have hl := World.block_lt_of_cell? _ _ h
  rw [← h]
  unfold World.cell?
  rw [Below.heap_alloc w o a.block hl]
theorem box_kept {w : World} {a ad : Addr} {v : Value} (h : w.cell? a = some v) (hne : a.block ≠ ad.block) (u : Value) (o : Obj) : ((w.setCell ad u).alloc o).cell? a = some v :=
  cell_alloc_old (cell_set_far h hne) o

set_option maxHeartbeats 1000000 in
set_option maxRecDepth 100000 in
theorem link33 (mb g n first count : Nat) (cd nx : Nat → Int) (w : World) (hmb : w.cell? ⟨mb, 3, none⟩ = some (.slice (some ⟨g, 0, none⟩) n n)) (ho : Opts w g n cd nx) (hn : n ≤ 65536) (hfc : first + count ≤ n)
    (cs : Nat → Nat) (hcs : ∀ j, j < count → cd (first + j) = (cs j : Int) ∧ cs j < 256) :
    Calls Try.prog 33 #[.pointer (some ⟨mb, 0, none⟩), .agg #[.int .i64 first, .int .i64 count, .bool false, .int .i64 0, .int .i64 0]] w fun e w' => e = .returned (.tuple #[]) ∧ Opts w' g n cd (fin cs first count nx) ∧ w.grownBy w' (some g) := by
  have hlt := World.block_lt_of_cell? _ _ hmb
  have hgl := RowAt.lt ho
  by_cases hnf : n = first
  · obtain rfl : count = 0 := by omega
    subst hnf
    go_enter Try.func33, Try.ntmps33
    go_wp2_with (go_quiet (fail))
    refine wp_loop_rounds 1 ?_
    rw [rounds_succ]
    go_wp2
    refine bodyPost_ret (results_none (by kernel_rfl) _ _ _) rfl ?_
    refine ⟨rfl, ?_, gb_alloc (gb_drewN (gb_alloc (gb_refl _ _) _) _) _⟩
    exact Opts.congr (RowAt.alloc (RowAt.drewN (RowAt.alloc ho _) _) _) (fun _ _ => rfl) (fun i _ => (fin_old nx rfl i).symm)
  · go_enter Try.func33, Try.ntmps33
    go_wp2_with (go_quiet (fail))
    have hbox0 : (((w.alloc (.cells #[.int .i64 first, .int .i64 count, .bool false, .int .i64 0, .int .i64 0] 63)).drewN nq).alloc (.cells #[.int .u64 0, .int .u64 0, .int .u64 0, .int .u64 0] 69)).cell? ⟨w.heap.size, 0, none⟩ = some (.int .i64 first) := by
      refine cell_alloc_old ?_ _
      simp
    have hseen : RowAt (((w.alloc (.cells #[.int .i64 first, .int .i64 count, .bool false, .int .i64 0, .int .i64 0] 63)).drewN nq).alloc (.cells #[.int .u64 0, .int .u64 0, .int .u64 0, .int .u64 0] 69)) 69 (w.heap.size + 1) 0 4 (rowF .u64 4 (fun q => (word cs 0 q : Int))) := by
      have h := RowAt.lit ((w.alloc (.cells #[.int .i64 first, .int .i64 count, .bool false, .int .i64 0, .int .i64 0] 63)).drewN nq) 69 [.int .u64 0, .int .u64 0, .int .u64 0, .int .u64 0] (by simp [maxLen])
      simp only [World.heap_drewN, World.size_alloc, List.length_cons, List.length_nil] at h
      exact h
    have ho1 : Opts (((w.alloc (.cells #[.int .i64 first, .int .i64 count, .bool false, .int .i64 0, .int .i64 0] 63)).drewN nq).alloc (.cells #[.int .u64 0, .int .u64 0, .int .u64 0, .int .u64 0] 69)) g n cd nx := RowAt.alloc (RowAt.drewN (RowAt.alloc ho _) _) _
    have hg1 : w.grownBy (((w.alloc (.cells #[.int .i64 first, .int .i64 count, .bool false, .int .i64 0, .int .i64 0] 63)).drewN nq).alloc (.cells #[.int .u64 0, .int .u64 0, .int .u64 0, .int .u64 0] 69)) (some g) := gb_alloc (gb_drewN (gb_alloc (gb_refl _ _) _) _) _
    generalize (((w.alloc (.cells #[.int .i64 first, .int .i64 count, .bool false, .int .i64 0, .int .i64 0] 63)).drewN nq).alloc (.cells #[.int .u64 0, .int .u64 0, .int .u64 0, .int .u64 0] 69)) = w1 at *
    go_loopw [6, 27] (fun r v wr => ∃ i : Nat, i ≤ count ∧ v = .int .i64 i ∧ r = .bool (rep cs i) ∧ RowAt wr 69 (w.heap.size + 1) 0 4 (rowF .u64 4 (fun q => (word cs i q : Int))) ∧ Opts wr g n cd nx ∧ w.grownBy wr (some g) ∧ wr.cell? ⟨w.heap.size, 0, none⟩ = some (.int .i64 first)) (fun _ v _ => count - (intOf v).toNat)
    case atStart => exact ⟨0, Nat.zero_le _, rfl, rfl, hseen, ho1, hg1, hbox0⟩
    case round =>
      clear hbox0 hseen ho1 hg1
      obtain ⟨i, hic, rfl, rfl, hs, ho2, hg2, hbox⟩ := hrel
      by_cases hlt2 : i < count
      · obtain ⟨hcd, hc256⟩ := hcs i hlt2
        have k0 := ho2.code (i := first + i) (by omega)
        have k1 := ho2.rest (i := first + i) (by omega) 1 (by omega)
        have k2 := ho2.rest (i := first + i) (by omega) 2 (by omega)
        have k3 := ho2.rest (i := first + i) (by omega) 3 (by omega)
        have k4 := ho2.rest (i := first + i) (by omega) 4 (by omega)
        have k5 := ho2.next (i := first + i) (by omega)
        have k6 := ho2.rest (i := first + i) (by omega) 6 (by omega)
        rw [hcd] at k0
        simp only [Nat.add_mul] at k0 k1 k2 k3 k4 k5 k6
        obtain ⟨c, hc⟩ : ∃ c, c = cs i := ⟨_, rfl⟩
        rw [← hc] at k0 hc256
        obtain ⟨z, hz⟩ : ∃ z, z = nx (first + i) := ⟨_, rfl⟩
        rw [← hz] at k5
        have Hc := hid hc
        clear hc hcd hz
        obtain ⟨P, hP⟩ : ∃ P : Nat, P = 2 ^ (c % 64) := ⟨_, rfl⟩
        have h64 : c % 64 < 64 := Nat.mod_lt _ (by omega)
        have hPlt : P < 2 ^ 64 := by rw [hP]; exact Nat.pow_lt_pow_right (by omega) h64
        have hw : IntKind.u64.wrap ((2 : Int) ^ (c % 64)) = (P : Int) := by
          rw [← wrap_u64_nat hPlt, hP]
          simp
        have hq4 : c / 64 < 4 := by omega
        have ks := hs.cell_some (rowF_at .u64 (fun q => (word cs i q : Int)) hq4)
        simp only [Nat.zero_add] at ks
        have hsz := hs.lt
        have kf := hs.frozen (c / 64)
        obtain ⟨W, hW⟩ : ∃ W : Nat, W = word cs i (c / 64) := ⟨_, rfl⟩
        have hWlt : W < 2 ^ 64 := by rw [hW]; exact word_lt _ _ _
        rw [← hW] at ks
        have hand := and_bit hWlt h64
        have hor := or_bit hWlt h64
        have hrb := rep_bit cs i
        rw [← Hc.out, ← hW] at hrb
        have hAz := and_bit_zero (x := W) (b := c % 64)
        rw [← hP] at hand hor hAz
        obtain ⟨A, hA⟩ : ∃ A : Nat, A = W &&& P := ⟨_, rfl⟩
        obtain ⟨O, hO⟩ : ∃ O : Nat, O = W ||| P := ⟨_, rfl⟩
        rw [← hA] at hand hAz
        rw [← hO] at hor
        have HO := hid hO
        have HP := hid hP
        have HW := hid hW
        clear hA hO hP hW
        have hnext : ∀ w2, RowAt w2 69 (w.heap.size + 1) 0 4 (rowF .u64 4 (fun q => (word cs i q : Int))) → RowAt (w2.setCell ⟨w.heap.size + 1, c / 64, none⟩ (.int .u64 O)) 69 (w.heap.size + 1) 0 4 (rowF .u64 4 (fun q => (word cs (i + 1) q : Int))) := fun w2 h => by
          have hst := h.stored (c / 64) (.int .u64 O)
          rw [Nat.zero_add, rowF_set .u64 (i := c / 64) _ (fun q => (word cs (i + 1) q : Int)) O (by rw [word, ← Hc.out, if_pos rfl, ← HW.out, HO.out, HP.out]) (fun j _ hne => by rw [word, ← Hc.out, if_neg hne])] at hst
          exact hst
        have Hnext := hid hnext
        clear hnext
        cases hr : rep cs i with
        | true =>
          rw [hr, Bool.true_or] at hrb
          have Hrb := hid hrb
          clear hrb hr hAz hand
          go_wp2
          go_roundw
          case rel => exact ⟨i + 1, by omega, by go_num, by rw [Hrb.out], RowAt.alloc (Hnext.out _ hs) _, RowAt.alloc (RowAt.other ho2 (by show g ≠ w.heap.size + 1; omega) _) _, gb_alloc (gb_set hg2 _ _ (.inr (by show w.heap.size ≤ w.heap.size + 1; omega))) _, box_kept hbox (by show w.heap.size ≠ w.heap.size + 1; omega) _ _⟩
          case measure => simp [intOf]; omega
        | false =>
          rw [hr, Bool.false_or] at hrb
          cases hb : W.testBit (c % 64) with
          | true =>
            rw [hb] at hrb hAz
            have Hrb := hid hrb
            clear hrb hr hb
            go_wp2
            go_roundw
            case rel => exact ⟨i + 1, by omega, by go_num, by rw [Hrb.out], RowAt.alloc (Hnext.out _ hs) _, RowAt.alloc (RowAt.other ho2 (by show g ≠ w.heap.size + 1; omega) _) _, gb_alloc (gb_set hg2 _ _ (.inr (by show w.heap.size ≤ w.heap.size + 1; omega))) _, box_kept hbox (by show w.heap.size ≠ w.heap.size + 1; omega) _ _⟩
            case measure => simp [intOf]; omega
          | false =>
            rw [hb] at hrb hAz
            have Hrb := hid hrb
            clear hrb hr hb
            go_wp2
            go_roundw
            case rel => exact ⟨i + 1, by omega, by go_num, by rw [Hrb.out], RowAt.alloc (Hnext.out _ hs) _, RowAt.alloc (RowAt.other ho2 (by show g ≠ w.heap.size + 1; omega) _) _, gb_alloc (gb_set hg2 _ _ (.inr (by show w.heap.size ≤ w.heap.size + 1; omega))) _, box_kept hbox (by show w.heap.size ≠ w.heap.size + 1; omega) _ _⟩
            case measure => simp [intOf]; omega
      · have hi : i = count := by omega
        rw [show rep cs i = rep cs count by rw [hi]]
        have Hi := hid hi
        have Hsz := hid hs.lt
        clear hi hs
        cases hr : rep cs count with
        | false =>
          have Hr := hid hr
          clear hr
          go_wp2
          refine bodyPost_ret (results_none (by kernel_rfl) _ _ _) rfl ?_
          exact ⟨rfl, ho2.congr (fun _ _ => rfl) (fun i _ => (fin_old nx Hr.out i).symm), hg2⟩
        | true =>
          have Hr := hid hr
          clear hr
          obtain ⟨Z, hZ, hZr⟩ := zeros64
          go_wp2_with fail
          have hlw : w.heap.size + 1 < wr.heap.size := Hsz.out
          have hL0 := hZr wr
          have hoA : Opts (wr.alloc (.cells Z 64)) g n cd nx := RowAt.alloc ho2 _
          have hgA := gb_alloc hg2 (.cells Z 64)
          have hboxA := cell_alloc_old hbox (.cells Z 64)
          clear hZ hZr ho2 hg2 hbox
          obtain ⟨lb, hlb⟩ : ∃ lb, lb = wr.heap.size := ⟨_, rfl⟩
          rw [← hlb] at hL0 hlw ⊢
          generalize wr.alloc (.cells Z 64) = wA at *
          clear hlb
          go_loopw [11] (fun v ws => ∃ t : Nat, t ≤ count ∧ v = .int .i64 ((t : Int) - 1) ∧ RowAt ws 64 lb 0 256 (rowF .i64 256 (fun c => (M cs first count t c : Int))) ∧ Opts ws g n cd (back cs first count nx t) ∧ w.grownBy ws (some g) ∧ ws.cell? ⟨w.heap.size, 0, none⟩ = some (.int .i64 first)) (fun v _ => (intOf v + 1).toNat)
          case atStart =>
            refine ⟨count, Nat.le_refl _, rfl, ?_, hoA.congr (fun _ _ => rfl) (fun i _ => (back_end cs first count nx i).symm), hgA, hboxA⟩
            rw [rowF_congr .i64 (g := fun _ => 0) (fun c _ => by rw [M_end]; rfl)]
            exact hL0
          case round =>
            clear hL0 hoA hgA hboxA
            obtain ⟨t, htc, rfl, hL, ho3, hg3, hbox3⟩ := hrel
            by_cases ht : t = 0
            · subst ht
              rw [show (((0 : Nat) : Int) - 1) = -1 by omega]
              go_wp2
              go_end0
              exact ⟨rfl, ho3.congr (fun _ _ => rfl) (fun i _ => back_fin nx Hr.out i), hg3⟩
            · obtain ⟨s, rfl⟩ : ∃ s, t = s + 1 := ⟨t - 1, by omega⟩
              rw [show (((s + 1 : Nat) : Int) - 1) = (s : Int) by omega]
              obtain ⟨hcd, hc256⟩ := hcs s (by omega)
              have k0 := ho3.code (i := first + s) (by omega)
              have k5 := ho3.next (i := first + s) (by omega)
              have kf := RowAt.frozen ho3 ((first + s) * 7 + 5)
              rw [hcd] at k0
              obtain ⟨c, hc⟩ : ∃ c, c = cs s := ⟨_, rfl⟩
              rw [← hc] at k0 hc256
              have km := hL.cell_some (rowF_at .i64 (fun c => (M cs first count (s + 1) c : Int)) hc256)
              have kmf := hL.frozen c
              obtain ⟨z, hz⟩ : ∃ z, z = back cs first count nx (s + 1) (first + s) := ⟨_, rfl⟩
              rw [← hz] at k5
              obtain ⟨m, hm⟩ : ∃ m, m = M cs first count (s + 1) c := ⟨_, rfl⟩
              rw [← hm] at km
              simp only [Nat.zero_add] at km
              simp only [Nat.add_mul] at k0 k5 kf
              have Hc := hid hc
              have Hm := hid hm
              clear hc hcd hz hm
              have hne2 : g ≠ lb := by omega
              have hsn : s < count := by omega
              go_wp2_with fail
              go_region
              go_wp2
              go_roundw
              case rel =>
                refine ⟨s, by omega, rfl, ?_, ?_, ?_, ?_⟩
                · have hst := (RowAt.other hL (a := ⟨g, first * 7 + s * 7 + 5, none⟩) (by show lb ≠ g; omega) (.int .i64 m)).stored c (.int .i64 (first + s + 1))
                  rw [Nat.zero_add, rowF_set .i64 (i := c) _ (fun c => (M cs first count s c : Int)) (first + s + 1) (by rw [M_step hsn, if_pos Hc.out.symm]; omega) (fun j _ hne => by rw [M_step hsn, if_neg (by rw [← Hc.out]; exact fun h => hne h.symm)])] at hst
                  exact hst.drew
                · have hst := ho3.setNext (i := first + s) m (back cs first count nx s) (by rw [back_step hsn, if_pos rfl, Hm.out, Hc.out]) (fun j hj => by rw [back_step hsn, if_neg hj])
                  rw [Nat.add_mul] at hst
                  exact RowAt.drew (RowAt.other hst hne2 _)
                · exact gb_drewN (gb_set (gb_set hg3 _ _ (.inl rfl)) _ _ (.inr (by show w.heap.size ≤ lb; omega))) 1
                · exact cell_set_far (cell_set_far hbox3 (by show w.heap.size ≠ g; omega)) (by show w.heap.size ≠ lb; omega)
              case measure => simp [intOf]

end Go.Proofs.Qxb6601535a
