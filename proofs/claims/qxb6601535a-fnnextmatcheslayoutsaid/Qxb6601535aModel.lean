/-
  zzLinkModelB1, walked.
-/
import Derived.Test.Qxb6601535aParts
import Derived.Test.Qxb6601535aLinkPlain
import Derived.OpenShut
namespace Go.Proofs.Qxb6601535a
open Go.RowKit Go.Proofs.Qxb6601535a.Link

theorem Try.info3 : (Try.prog.info? 3).map (fun i => (i.zero, i.size, i.bytes)) = some (some (.int .i64 0), 1, 8) := by kernel_rfl

/-- The codes of the window, by offset. -/
def csOf (cd : List Int) (first j : Nat) : Nat := (cd.getD (first + j) 0).toNat

theorem zero64 (w : World) : (zeroValue 64).run Try.prog w = .ok (.agg (Array.replicate 256 (.int .i64 0))) w := by kernel_rfl

/-- 'var x [256]int', its zeros under a name. -/
theorem zeros64 : ∃ Z : Array Value, (∀ w, (zeroValue 64).run Try.prog w = .ok (.agg Z) w) ∧ ∀ (w : World), RowAt (w.alloc (.cells Z 64)) 64 w.heap.size 0 256 (rowF .i64 256 (fun _ => 0)) := by
  refine ⟨_, zero64, fun w => ⟨⟨_, heap_alloc_new w _, by simp, fun j hj => ?_⟩, by rw [rowF_length]; exact Nat.le_refl _, by simp [maxLen]⟩⟩
  rw [rowF_length] at hj
  rw [rowF_at _ _ hj]
  simp [hj]

set_option maxHeartbeats 1000000 in
set_option maxRecDepth 100000 in
theorem model27 (a0 : Option Addr) (n c0 : Nat) (cd : List Int) (a1 : Option Addr) (c1 : Nat) (nx : List Int) (first count : Nat) (w : World) (h0 : Rd w .u64 a0 n cd) (h1 : Rd w .i64 a1 n nx) (hn : n ≤ 65536) (hfc : first + count ≤ n)
    (hb : ∀ j, j < count → cd.getD (first + j) 0 ≤ 255) :
    Calls Try.prog 27 #[.slice a0 n c0, .slice a1 n c1, .int .i64 first, .int .i64 count] w fun e w' => ∃ g, e = .returned (.slice (some ⟨g, 0, none⟩) n n) ∧ w.heap.size ≤ g ∧
      RowAt w' 3 g 0 n (rowF .i64 n (fin (csOf cd first) first count (fun i => nx.getD i 0))) ∧ Below w.heap.size w w' := by
  obtain ⟨i0, hi, hz0, hz1, hz2⟩ := info_parts Try.info3
  obtain ⟨Z, hZ, hZr⟩ := zeros64
  go_enter Try.func27, Try.ntmps27
  go_wp2_with (at_make; refine wpList_make_row _ rfl _ _ 40 rfl i0 (.int .i64 0) Try.underlying40 hi hz0 hz1 rfl _ _ _ _ n rfl rfl rfl rfl (by rw [hz2]; omega) (by unfold maxLen; omega) ?_)
  intro w1 hrow hgrow hsz
  have hb1 : Below w.heap.size w w1 := (Below.refl _ _).grown hgrow (Nat.le_refl _) (fun k hk => by cases hk)
  have hs1 : w.heap.size < w1.heap.size := by omega
  clear hsz hgrow
  rw [rowF_zero] at hrow
  go_wp2_with fail
  go_loopw [10] (fun v wr => ∃ k : Nat, k ≤ n ∧ v = .int .i64 k ∧ RowAt wr 3 w.heap.size 0 n (rowF .i64 n (fun i => if i < k then nx.getD i 0 else 0)) ∧ Below w.heap.size w wr) (fun v _ => n - (intOf v).toNat)
  case atStart => exact ⟨0, Nat.zero_le _, rfl, hrow, hb1⟩
  case round =>
    clear hrow hb1 hs1
    obtain ⟨k, hk, rfl, hr, hbl⟩ := hrel
    by_cases hlt : k < n
    · obtain ⟨b, off, rfl, hc, hwf⟩ := h1.at hlt
      have hc' := (hbl.cell (World.block_lt_of_cell? _ _ hc)).trans hc
      have hfr := hr.frozen k
      obtain ⟨z0, hcc⟩ : ∃ c0, wr.cell? ⟨w.heap.size, 0 + k, none⟩ = some c0 := ⟨_, hr.cell_some (rowF_at _ _ hlt)⟩
      simp only [Nat.zero_add] at hcc
      obtain ⟨z, hz⟩ : ∃ z, z = nx.getD k 0 := ⟨_, rfl⟩
      rw [← hz] at hc'
      have Hz := hid hz
      clear hz hc hwf
      go_wp2
      go_roundw
      case rel =>
        refine ⟨k + 1, by omega, by go_num, ?_, hbl.setCell (Nat.le_refl _) _⟩
        have hst := hr.stored k (.int .i64 z)
        rw [Nat.zero_add, rowF_set .i64 _ (fun i => if i < k + 1 then nx.getD i 0 else 0) z (by rw [if_pos (by omega)]; exact Hz.out.symm) (fun j _ hne => by
          by_cases e : j < k
          · rw [if_pos e, if_pos (by omega)]
          · rw [if_neg e, if_neg (by omega)])] at hst
        exact hst
      case measure => simp [intOf]; omega
    · have hr' : RowAt wr 3 w.heap.size 0 n (rowF .i64 n (fun i => nx.getD i 0)) := by
        have h := hr
        rw [rowF_congr .i64 (g := fun i => nx.getD i 0) (fun i hi => by rw [if_pos (by omega)])] at h
        exact h
      clear hr
      go_wp2_with fail
      have hlw : w.heap.size < wr.heap.size := hr'.lt
      have hL0 := hZr wr
      have hr1 := hr'.alloc (.cells Z 64)
      have hb1 := hbl.alloc hbl.size (.cells Z 64)
      clear hr' hbl hZr hZ
      obtain ⟨lb, hlb⟩ : ∃ lb, lb = wr.heap.size := ⟨_, rfl⟩
      rw [← hlb] at hL0 hlw ⊢
      generalize wr.alloc (.cells Z 64) = wA at *
      clear hlb
      go_loopw [12, 13] (fun r v ws => ∃ (i : Nat) (L : Nat → Nat) (W : Nat → Int), i ≤ count ∧ v = .int .i64 i ∧ r = .bool (rep (csOf cd first) i) ∧ RowAt ws 64 lb 0 256 (rowF .i64 256 (fun c => (L c : Int))) ∧
        RowAt ws 3 w.heap.size 0 n (rowF .i64 n W) ∧ Fwd (csOf cd first) first (fun i => nx.getD i 0) i L W ∧ Below w.heap.size w ws) (fun _ v _ => count - (intOf v).toNat)
      case atStart => exact ⟨0, fun _ => 0, _, Nat.zero_le _, rfl, rfl, hL0, hr1, fwd_start _ _ _, hb1⟩
      case round =>
        clear hL0 hr1 hb1
        obtain ⟨i, L, W, hic, rfl, rfl, hL, hW, hF, hbl⟩ := hrel
        by_cases hlt2 : i < count
        · obtain ⟨b, off, rfl, hc, hwf⟩ := h0.at (j := first + i) (by omega)
          have hc' := (hbl.cell (World.block_lt_of_cell? _ _ hc)).trans hc
          have hle := hb i hlt2
          have hge : 0 ≤ cd.getD (first + i) 0 := (bounds_u64 hwf).1
          obtain ⟨cN, hcN⟩ : ∃ cN : Nat, cd.getD (first + i) 0 = cN := ⟨(cd.getD (first + i) 0).toNat, by omega⟩
          rw [hcN] at hc' hle
          have hcb : cN < 256 := by omega
          have hcs : csOf cd first i = cN := by unfold csOf; rw [hcN]; rfl
          have Hcs := hid hcs
          have hlc := hL.cell_some (rowF_at .i64 (fun c => (L c : Int)) hcb)
          have hlf := hL.frozen cN
          simp only [Nat.zero_add] at hlc
          by_cases hz : L cN = 0
          · have hzb : ((L cN : Int) != 0) = false := by simp [hz]
            have hlz : wr.cell? ⟨lb, cN, none⟩ = some (.int .i64 0) := by rw [hlc, hz]; rfl
            have HF2 := hid (hF.fresh (by rw [hcs]; exact hz))
            have HR := hid (show rep (csOf cd first) (i + 1) = rep (csOf cd first) i by rw [hF.seen, hcs, hz]; simp)
            clear hz hcs hcN hlc hzb
            go_wp2
            go_roundw
            case rel =>
              refine ⟨i + 1, _, W, by omega, by go_num, by rw [HR.out], ?_, hW.other (by simp; omega) _, HF2.out, hbl.setCell (by simp; omega) _⟩
              have hst := hL.stored cN (.int .i64 (i + 1))
              rw [Nat.zero_add, rowF_set .i64 (i := cN) _ (fun c => ((if c = csOf cd first i then i + 1 else L c : Nat) : Int)) (i + 1) (by rw [if_pos Hcs.out.symm]; omega) (fun j _ hne => by rw [if_neg (by rw [Hcs.out]; exact hne)])] at hst
              exact hst
            case measure => simp [intOf]; omega
          · obtain ⟨q, hq⟩ : ∃ q, L cN = q + 1 := ⟨L cN - 1, by omega⟩
            rw [hq] at hlc
            obtain ⟨hqi, hF2⟩ := hF.again (q := q) (by rw [hcs]; exact hq)
            have HF2 := hid hF2
            clear hF2
            have hqn : first + q < n := by omega
            have hwc := hW.cell_some (rowF_at .i64 W hqn)
            have hwf2 := hW.frozen (first + q)
            simp only [Nat.zero_add] at hwc
            have hne : lb ≠ w.heap.size := by omega
            have hqz : (((q + 1 : Nat) : Int) != 0) = true := by simp; omega
            have HR := hid (show rep (csOf cd first) (i + 1) = true by rw [hF.seen, hcs, hq]; simp)
            clear hq hz hcs hcN
            go_wp2
            go_roundw
            case rel =>
              refine ⟨i + 1, _, _, by omega, by go_num, by rw [HR.out], ?_, ?_, HF2.out, (hbl.setCell (Nat.le_refl _) _).setCell (by simp; omega) _⟩
              · have hst := (hL.other (a := ⟨w.heap.size, first + q, none⟩) (by simp; omega) (.int .i64 (first + i + 1))).stored cN (.int .i64 (i + 1))
                rw [Nat.zero_add, rowF_set .i64 (i := cN) _ (fun c => ((if c = csOf cd first i then i + 1 else L c : Nat) : Int)) (i + 1) (by rw [if_pos Hcs.out.symm]; omega) (fun j _ hne => by rw [if_neg (by rw [Hcs.out]; exact hne)])] at hst
                exact hst
              · have hst := hW.stored (first + q) (.int .i64 (first + i + 1))
                rw [Nat.zero_add, rowF_set .i64 (i := first + q) _ (fun a => if a = first + q then (first : Int) + i + 1 else W a) (first + i + 1) (by rw [if_pos rfl]) (fun j _ hne => by rw [if_neg hne])] at hst
                exact hst.other (by simp; omega) _
            case measure => simp [intOf]; omega
        · have hF' : Fwd (csOf cd first) first (fun i => nx.getD i 0) count L W := by have h := hF; rwa [show i = count by omega] at h
          have hrep : rep (csOf cd first) i = rep (csOf cd first) count := by rw [show i = count by omega]
          rw [hrep]
          have Hlt := hid hlt2
          clear hF hrep hlt2
          cases hR : rep (csOf cd first) count with
          | false =>
            have Hfin := hid (hF'.same hR)
            clear hR hF'
            go_wp2
            go_ret
            refine ⟨_, rfl, Nat.le_refl _, ?_, hbl⟩
            have h := hW
            rw [rowF_congr .i64 (fun i _ => Hfin.out i)] at h
            exact h
          | true =>
            have hm : ∀ j, j < count → csOf cd first j < 256 := fun j hj => by
              have h1 := hb j hj
              unfold csOf
              omega
            have Hover := hid (hF'.over hR hm)
            have HF := hid hF'
            clear hR hF' hm
            go_wp2_with fail
            go_loopw [15] (fun v ws => ∃ c : Nat, c ≤ 256 ∧ v = .int .i64 c ∧ RowAt ws 64 lb 0 256 (rowF .i64 256 (fun c => (L c : Int))) ∧ RowAt ws 3 w.heap.size 0 n (rowF .i64 n (cleared (csOf cd first) first count L W c)) ∧ Below w.heap.size w ws) (fun v _ => 256 - (intOf v).toNat)
            case atStart =>
              refine ⟨0, Nat.zero_le _, rfl, hL, ?_, hbl⟩
              rw [rowF_congr .i64 (fun i _ => cleared_start (csOf cd first) first count L W i)]
              exact hW
            case round =>
              clear hL hW hbl
              obtain ⟨c, hc, rfl, hL, hW, hbl⟩ := hrel
              by_cases hlt : c < 256
              · have hlc := hL.cell_some (rowF_at .i64 (fun c => (L c : Int)) hlt)
                simp only [Nat.zero_add] at hlc
                by_cases hz : L c = 0
                · have hlz : wr.cell? ⟨lb, c, none⟩ = some (.int .i64 0) := by rw [hlc, hz]; rfl
                  have Hs := hid (rowF_congr .i64 (n := n) (fun i _ => cleared_skip (cs := csOf cd first) (first := first) (W := W) (count := count) hz i))
                  clear hz hlc
                  go_wp2
                  go_roundw
                  case rel => exact ⟨c + 1, by omega, by go_num, hL, by rw [Hs.out]; exact hW, hbl⟩
                  case measure => simp [intOf]; omega
                · obtain ⟨q, hq⟩ : ∃ q, L c = q + 1 := ⟨L c - 1, by omega⟩
                  rw [hq] at hlc
                  obtain ⟨hqc, hcl⟩ := HF.out.clear hq
                  have Hcl := hid hcl
                  have hqn : first + q < n := by omega
                  have hwc := hW.cell_some (rowF_at .i64 (cleared (csOf cd first) first count L W c) hqn)
                  have hwf2 := hW.frozen (first + q)
                  obtain ⟨z0, hz0e⟩ : ∃ z, z = cleared (csOf cd first) first count L W c (first + q) := ⟨_, rfl⟩
                  simp only [Nat.zero_add] at hwc
                  rw [← hz0e] at hwc
                  have hne : lb ≠ w.heap.size := by omega
                  have hqz : (((q + 1 : Nat) : Int) != 0) = true := by simp; omega
                  clear hq hz hcl hz0e
                  go_wp2
                  go_roundw
                  case rel =>
                    refine ⟨c + 1, by omega, by go_num, hL.other (by simp; omega) _, ?_, hbl.setCell (Nat.le_refl _) _⟩
                    have hst := hW.stored (first + q) (.int .i64 0)
                    rw [Nat.zero_add, rowF_set .i64 (i := first + q) _ (cleared (csOf cd first) first count L W (c + 1)) 0 (by rw [Hcl.out, if_pos rfl]) (fun j _ hne => by rw [Hcl.out, if_neg hne])] at hst
                    exact hst
                  case measure => simp [intOf]; omega
              · have hc6 : c = 256 := by omega
                have Hc6 := hid hc6
                clear hc6
                go_wp2
                go_ret
                refine ⟨_, rfl, Nat.le_refl _, ?_, hbl⟩
                have h := hW
                rw [Hc6.out, rowF_congr .i64 (fun i _ => Hover.out i)] at h
                exact h

end Go.Proofs.Qxb6601535a
