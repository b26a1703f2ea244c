/-
  FnCycleIsFirstShortestLeastCycle, walked.
-/
import Derived.Test.Qxb6601988aBytes
import Derived.Test.Qxb6601988aChain
import Derived.Test.Qxb6601988aLift
import Derived.Deep.QuietTactic
import Derived.BigQuiet
namespace Go.Proofs.Qxb6601988a
open Go.RowKit Go.Proofs.Qxb6601988a.Bfs

set_option maxHeartbeats 2000000 in
set_option maxRecDepth 100000 in
theorem walk5 : Walk5 := by
  intro a0 n cap0 ss a1 len1 cap1 es w hs he
  have hm0 := hs.max
  have hm1 := he.max
  unfold maxLen at hm0 hm1
  go_enter Try.func5, Try.ntmps5
  go_wp2_with (first
    | (go_at_call 18; refine (bytes18 a0 n cap0 a1 len1 cap1 _ hs.max he.max hs.name he.why).mono ?_; rintro e w' ⟨⟨b, rfl⟩, rfl⟩)
    | (go_at_call 8; refine (bytes8 a0 n cap0 a1 len1 cap1 _ hs.max he.max hs.name he.why).mono ?_; rintro e w' ⟨⟨b8, rfl⟩, rfl⟩))
  all_goals try (go_ret; exact ⟨rfl, Below.refl _ _⟩)
  have hn : n ≤ 256 := by omega
  have hl1 : len1 ≤ 32768 := by omega
  refine (sorts10_full a0 n cap0 ss _ hs hn).mono ?_
  rintro e w1 ⟨ga, sg, q, rfl, hsa, hrw, hblk, hb1⟩
  have he1 := he.below hb1
  go_wp2_with (first
    | (go_at_call 11; refine (edges11 a1 len1 cap1 es _ he1 hl1).mono ?_; rintro e w2 ⟨rfl, hm2, hb2⟩)
    | (go_at_call 9; refine (graph9 ga n n w1.heap.size _).mono ?_; rintro e w3 ⟨rfl, rfl⟩))
  obtain ⟨hG, hb3⟩ := G.mk' hs he hn hsa hrw hblk hb1 hm2 hb2
  generalize w2.alloc (.cells #[.slice ga n n, .map (some w1.heap.size)] 56) = w3 at *
  generalize w2.heap.size = gb at *
  generalize w1.heap.size = mb at *
  clear hb1 hb2 hm2 he1 hs he hsa hrw hblk
  have hb3s := hb3.size
  refine (cycle19 hG).mono ?_
  rintro e w4 ⟨hb4, ⟨rfl, hsh⟩ | ⟨cb, ge, ce, p, rfl, hsh, hcb, hge, hown⟩⟩
  · have hG4 := hG.below hb4
    have hb4w : Below w.heap.size w w4 := hb3.trans (hb4.mono hb3s)
    have hb4s := hb4w.size
    have Hsh := hid hsh
    have he4 := hG4.edg
    clear hsh hG hb4 hb3
    have hpn := fun w => run_eql_pointer_nil (P := Try.prog) w 39 none (by rw [Try.underlying39]; rfl)
    go_wp2_with (first
      | (go_at_call 13; refine (adj13 a1 len1 cap1 n es _ he4 hn).mono ?_; rintro e w5 ⟨ag, rfl, hag, harow, hb5⟩; rw [matE] at harow)
      | (go_at_call 14; refine (dist14 ag n (Ed (firstWhy es)) _ harow hn).mono ?_; rintro e w6 ⟨dg, D, rfl, hdg, hdrow, hD, hb6⟩; have harow6 := harow.below hb6 harow.lt))
    have hb6w : Below w.heap.size w w6 := (hb4w.trans (hb5.mono hb4s)).trans (hb6.mono (by have := hb5.size; omega))
    have hG6 := (hG4.below hb5).below hb6
    clear hb5 hb6 harow he4 hb4w hG4
    go_loop [11, 13] (fun bl v => ∃ k : Nat, k ≤ n ∧ v = .int .i64 k ∧ bl = .int .i64 0) (fun _ v => n - (intOf v).toNat)
    case atStart => exact ⟨0, Nat.zero_le _, rfl, rfl⟩
    case round =>
      obtain ⟨k, hk, rfl, rfl⟩ := hrel
      by_cases hlt : k < n
      · obtain ⟨⟨nm, ix⟩, hx⟩ : ∃ x, ss[k]? = some x := ⟨_, List.getElem?_eq_getElem (by rw [hG6.srt.len]; exact hlt)⟩
        obtain ⟨b, off, rfl, _, hc1, _, hwx⟩ := hG6.srt.cells k _ hx
        have Hno := hid (Hsh.out k ix hlt (by rw [List.getElem?_map, hx]; rfl))
        clear hx
        go_wp2_with (go_at_call 20; refine (back20_zero n es ix ag dg D harow6 hdrow hD hn Hno.out).mono ?_; rintro e w7 ⟨rfl, rfl⟩)
        go_round
        case rel => exact ⟨k + 1, by omega, by go_num, rfl⟩
        case measure => simp [intOf]; omega
      · go_wp2
        go_ret
        exact ⟨rfl, hb6w⟩
  · have hG4 := hG.below hb4
    have hb4w : Below w.heap.size w w4 := hb3.trans (hb4.mono hb3s)
    have hb4s := hb4w.size
    obtain ⟨i1, x1, hi1, hx1, hbest, hnd, hmin1, hmin⟩ := hsh
    have hpos := hbest.1.pos
    have hpl : p.length ≤ n := best_len' hbest hnd
    have hn0 : 0 < n := by omega
    obtain rfl := hG4.sa hn0
    have Hb := hid (show (∀ (i : Nat) (x : Int), p[i]? = some x → inR n x) ∧ (∀ (i : Nat) (x y : Int), p[i]? = some x → p[(i + 1) % p.length]? = some y → Ed (firstWhy es) x y = true) from ⟨fun i x h => hbest.1.range h, fun i x y h1 h2 => hbest.1.edge h1 h2⟩)
    have Hmin := hid (And.intro hmin1 hmin)
    have H1 := hid (show (ss.map (·.2))[i1]? = some x1 ∧ Best n (Ed (firstWhy es)) x1 p from ⟨hx1, hbest⟩)
    have he4 := hG4.edg
    have hcb4 := World.block_lt_of_cell? _ _ hcb
    have hge4 : ge < w4.heap.size := (hown.lt ge rfl).2
    clear hbest hnd hmin1 hmin hx1 hG hb4 hb3
    have hpn := fun w => run_eql_pointer_nil (P := Try.prog) w 39 (some ⟨cb, 0, none⟩) (by rw [Try.underlying39]; rfl)
    go_wp2_with (first
      | (go_at_call 13; refine (adj13 a1 len1 cap1 n es _ he4 hn).mono ?_; rintro e w5 ⟨ag, rfl, hag, harow, hb5⟩; rw [matE] at harow)
      | (go_at_call 14; refine (dist14 ag n (Ed (firstWhy es)) _ harow hn).mono ?_; rintro e w6 ⟨dg, D, rfl, hdg, hdrow, hD, hb6⟩; have harow6 := harow.below hb6 harow.lt))
    have hs5 := hb5.size
    have hs6 := hb6.size
    have hb46 : Below w4.heap.size w4 w6 := hb5.trans (hb6.mono hs5)
    have hb6w : Below w.heap.size w w6 := hb4w.trans (hb46.mono hb4s)
    have hG6 := hG4.below hb46
    clear hb5 hb6 harow he4 hb4w hG4
    go_loop [11, 12, 13] (fun bl bs v => ∃ (k l : Nat) (s : Int), k ≤ n ∧ v = .int .i64 k ∧ bl = .int .i64 l ∧ bs = .int .i64 s ∧ l ≤ 256 ∧ (i1 < k → l = p.length ∧ s = x1) ∧ (k ≤ i1 → l = 0 ∨ p.length < l)) (fun _ _ v => n - (intOf v).toNat)
    case atStart => exact ⟨0, 0, 0, Nat.zero_le _, rfl, rfl, rfl, by omega, fun h => by omega, fun _ => .inl rfl⟩
    case round =>
      obtain ⟨k, l, s, hk, rfl, rfl, rfl, hl256, hdone, hnot⟩ := hrel
      have Hd := hid (And.intro hdone hnot)
      by_cases hlt : k < n
      · obtain ⟨⟨nm, ix⟩, hx⟩ : ∃ x, ss[k]? = some x := ⟨_, List.getElem?_eq_getElem (by rw [hG6.srt.len]; exact hlt)⟩
        obtain ⟨b, off, rfl, _, hc1, _, hwx⟩ := hG6.srt.cells k _ hx
        have hix : (ss.map (·.2))[k]? = some ix := by rw [List.getElem?_map, hx]; rfl
        have Ha := hid (show (k < i1 → ∀ c, Closed n (Ed (firstWhy es)) ix c → p.length < c.length) ∧ (k = i1 → ix = x1) ∧ (∀ c, Closed n (Ed (firstWhy es)) ix c → p.length ≤ c.length) from
          ⟨fun h c hc => Hmin.out.1 k ix h hix c hc, fun e => by subst e; have h1 := H1.out.1; rw [hix] at h1; simpa using h1, fun c hc => Hmin.out.2 k ix hlt hix c hc⟩)
        clear hx hix hdone hnot
        go_wp2_with (go_at_call 20; refine (back20_cmp hG6 ix hwx ag dg D harow6 hdrow hD p x1 H1.out.2 k i1 Ha.out.1 Ha.out.2.1 Ha.out.2.2).mono ?_; rintro e w7 ⟨l7, rfl, rfl, hl7, hA, hB, hC⟩)
        all_goals have hD0 := Hd.out
        · go_round
          case rel => exact ⟨k + 1, l7, ix, by omega, by go_num, rfl, rfl, hl7, fun h => by
            by_cases e : k = i1
            · exact ⟨hB e, Ha.out.2.1 e⟩
            · have := hD0.1 (by omega)
              omega, fun h => by
            have := hA (by omega)
            omega⟩
          case measure => simp [intOf]; omega
        · go_round
          case rel => exact ⟨k + 1, l7, ix, by omega, by go_num, rfl, rfl, hl7, fun h => by
            by_cases e : k = i1
            · exact ⟨hB e, Ha.out.2.1 e⟩
            · have := hD0.1 (by omega)
              have := hC (by omega)
              have h0 : ((l : Int) == 0) = true ∨ l7 < l := by assumption
              rcases h0 with h0 | h0
              · rw [beq_iff_eq] at h0; omega
              · omega, fun h => by
            have := hA (by omega)
            omega⟩
          case measure => simp [intOf]; omega
        · go_round
          case rel => exact ⟨k + 1, l, s, by omega, by go_num, rfl, rfl, hl256, fun h => by
            by_cases e : k = i1
            · have := hD0.2 (by omega)
              have := hB e
              omega
            · exact hD0.1 (by omega), fun h => hD0.2 (by omega)⟩
          case measure => simp [intOf]; omega
        · go_round
          case rel => exact ⟨k + 1, l, s, by omega, by go_num, rfl, rfl, hl256, fun h => by
            by_cases e : k = i1
            · have := hB e
              omega
            · exact hD0.1 (by omega), fun h => hD0.2 (by omega)⟩
          case measure => simp [intOf]; omega
      · obtain ⟨rfl, rfl⟩ := Hd.out.1 (by omega)
        have hl0 : ((p.length : Int) == 0) = false := by rw [beq_eq_false_iff_ne]; omega
        have hsn := fun w g off n c => Lib.run_eql_slice_nil (P := Try.prog) w 32 3 (some ⟨g, off, none⟩) n c 0 0 Try.underlying32
        have hnn : ((p.length : Int) != (p.length : Int)) = false := by simp
        have hcb6 := (hb46.cell (p := ⟨cb, 0, none⟩) hcb4).trans hcb
        have hcbw6 : cb < w6.heap.size := by omega
        have hgew6 : ge < w6.heap.size := by omega
        clear hdone hnot Hd hk
        go_wp2_with (go_at_call 15; refine (least15 ag dg n (Ed (firstWhy es)) D _ _ harow6 hdrow hD hn p H1.out.2 hpl).mono ?_; rintro e w7 ⟨g7, off7, cap7, rfl, hg7, hrow7, hb7⟩; have hcb7 := (hb7.cell (p := ⟨cb, 0, none⟩) hcbw6).trans hcb6)
        have hb7w : Below w.heap.size w w7 := hb6w.trans (hb7.mono (by omega))
        have hs7 := hb7.size
        have hG7 := hG6.below hb7
        have hb47 : Below w4.heap.size w4 w7 := hb46.trans (hb7.mono (by omega))
        clear hb7 hb6w hG6 hdrow harow6 hcb6
        go_loopw [17] (fun v ws => ∃ k : Nat, k ≤ p.length ∧ v = .int .i64 k ∧ Below w7.heap.size w7 ws) (fun v _ => p.length - (intOf v).toNat)
        case atStart => exact ⟨0, Nat.zero_le _, rfl, Below.refl _ _⟩
        case round =>
          obtain ⟨k, hk, rfl, hb⟩ := hrel
          by_cases hlt : k < p.length
          · obtain ⟨hpr, hpe⟩ := Hb.out
            obtain ⟨x, hx⟩ : ∃ x, p[k]? = some x := ⟨_, List.getElem?_eq_getElem hlt⟩
            obtain ⟨y, hy⟩ : ∃ y, p[(k + 1) % p.length]? = some y := ⟨_, List.getElem?_eq_getElem (Nat.mod_lt _ hpos)⟩
            have hmod : (k + 1) % p.length < p.length := Nat.mod_lt _ hpos
            have hE := hpe _ _ _ hx hy
            have hxr := hpr _ _ hx
            have hyr := hpr _ _ hy
            obtain ⟨xn, rfl⟩ : ∃ xn : Nat, x = xn := ⟨x.toNat, by have := hxr.1; omega⟩
            obtain ⟨yn, rfl⟩ : ∃ yn : Nat, y = yn := ⟨y.toNat, by have := hyr.1; omega⟩
            have hxn : xn < n := by have := hxr.2; omega
            have hyn : yn < n := by have := hyr.2; omega
            obtain ⟨k0, k1, k2⟩ := edgeC_cells hown hlt hx hy
            have hb4r : Below w4.heap.size w4 wr := hb47.trans (hb.mono (by omega))
            have t0 := (hb4r.cell (p := ⟨ge, k * 3, none⟩) hge4).trans k0
            have t1 := (hb4r.cell (p := ⟨ge, k * 3 + 1, none⟩) hge4).trans k1
            have t2 := (hb4r.cell (p := ⟨ge, k * 3 + 2, none⟩) hge4).trans k2
            have tc := (hb4r.cell (p := ⟨cb, 0, none⟩) hcb4).trans hcb
            have hrowr := hrow7.below hb hrow7.lt
            have c0 := hrowr.cell_some (j := k) (u := .int .i64 xn) (by rw [List.getElem?_map, hx]; rfl)
            have c1 := hrowr.cell_some (j := (k + 1) % p.length) (u := .int .i64 yn) (by rw [List.getElem?_map, hy]; rfl)
            have hmi0 : 0 ≤ ((k : Int) + 1) % (p.length : Int) := Int.emod_nonneg _ (by omega)
            have hmi1 : ((k : Int) + 1) % (p.length : Int) < (p.length : Int) := Int.emod_lt_of_pos _ (by omega)
            have hE' : (firstWhy es xn yn).isSome = true := hE
            have hsr := hb.size
            have hcbw : cb < wr.heap.size := by omega
            have hgew : ge < wr.heap.size := by omega
            clear hpr hpe hx hy hE hxr hyr k0 k1 k2
            go_wp2_with fail
            have hbX : Below w7.heap.size w7 (wr.alloc (.cells #[.pointer (some ⟨q + xn, 0, none⟩), .pointer (some ⟨q + yn, 0, none⟩), .string ((firstWhy es xn yn).getD ByteArray.empty)] 49)) := hb.alloc hsr _
            have x0 : (wr.alloc (.cells #[.pointer (some ⟨q + xn, 0, none⟩), .pointer (some ⟨q + yn, 0, none⟩), .string ((firstWhy es xn yn).getD ByteArray.empty)] 49)).cell? ⟨wr.heap.size, 0, none⟩ = some (.pointer (some ⟨q + xn, 0, none⟩)) := by rw [World.cell?_alloc_at _ _ _ _ (by simp)]; rfl
            have x1' : (wr.alloc (.cells #[.pointer (some ⟨q + xn, 0, none⟩), .pointer (some ⟨q + yn, 0, none⟩), .string ((firstWhy es xn yn).getD ByteArray.empty)] 49)).cell? ⟨wr.heap.size, 1, none⟩ = some (.pointer (some ⟨q + yn, 0, none⟩)) := by rw [World.cell?_alloc_at _ _ _ _ (by simp)]; rfl
            have x2 : (wr.alloc (.cells #[.pointer (some ⟨q + xn, 0, none⟩), .pointer (some ⟨q + yn, 0, none⟩), .string ((firstWhy es xn yn).getD ByteArray.empty)] 49)).cell? ⟨wr.heap.size, 2, none⟩ = some (.string ((firstWhy es xn yn).getD ByteArray.empty)) := by rw [World.cell?_alloc_at _ _ _ _ (by simp)]; rfl
            have hGX := hG7.below hbX
            have y0 := (hGX.row hn0).cell_some (ptrs_at hxn)
            have y1 := (hGX.row hn0).cell_some (ptrs_at hyn)
            rw [Nat.zero_add] at y0 y1
            have hEd := hGX.edg
            generalize (wr.alloc (.cells #[.pointer (some ⟨q + xn, 0, none⟩), .pointer (some ⟨q + yn, 0, none⟩), .string ((firstWhy es xn yn).getD ByteArray.empty)] 49)) = wX at *
            generalize wr.heap.size = gx at *
            have hnp := fun w => neqp_same w ⟨q + xn, 0, none⟩
            have hnq := fun w => neqp_same w ⟨q + yn, 0, none⟩
            obtain ⟨s0, hs0⟩ : ∃ s0, s0 = (firstWhy es xn yn).getD ByteArray.empty := ⟨_, rfl⟩
            rw [← hs0] at x2
            clear hrowr c0 c1 t0 t1 t2 tc hb4r hb hGX
            go_quiet (fail)
            go_wp2_with (go_at_call 21; refine (why21 a1 len1 cap1 es xn yn _ (hEd.below (below_drewN (Below.refl _ _) _))).mono ?_; rintro e wp ⟨rfl, rfl⟩; rw [hE', ← hs0])
            go_roundw
            case rel => exact ⟨k + 1, by omega, by go_num, below_drewN hbX _⟩
            case measure => simp [intOf]; omega
          · go_wp2
            go_ret
            exact ⟨rfl, hb7w.trans (hb.mono (by have := hb7w.size; omega))⟩

end Go.Proofs.Qxb6601988a
