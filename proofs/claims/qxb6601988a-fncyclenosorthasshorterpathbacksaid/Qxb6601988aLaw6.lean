/-
  FnCycleNoSortHasShorterPathBack, walked.
-/
import Derived.Test.Qxb6601988aBytes
import Derived.Test.Qxb6601988aBundle
import Derived.Test.Qxb6601988aSeen
import Derived.Test.Qxb6601988aLift
import Derived.Deep.QuietTactic
import Derived.BigQuiet
namespace Go.Proofs.Qxb6601988a
open Go.RowKit Go.Proofs.Qxb6601988a.Bfs

theorem neq_ptr_same (w : World) (a : Addr) : (binOp .neq 47 (.pointer (some a)) (.pointer (some a))).run Try.prog w = .ok (.bool false) w := by
  obtain ⟨j0, h0, h1⟩ := Option.map_eq_some_iff.1 Try.info57
  have h : ∀ d : Nat, (Op.equalIn (d + 1) 47 (.pointer (some a)) (.pointer (some a))).run Try.prog w = .ok true w := fun d => by
    simp [Op.equalIn, run_underlying Try.underlying47, sizeOf, typeInfo, h0, run_sameAddr_same]
  simp only [binOp]
  simp [Op.equal, Op.maxDepth, h 9999]

theorem edgesL_at (f : Int → Int → Option ByteArray) (q : Nat) (p : List Int) {m k i : Nat} (hk : k < m) (hi : i < 3) : (edgesL f q p m)[k * 3 + i]? = (edgeL f q p k)[i]? := by
  induction m with
  | zero => omega
  | succ m ih =>
    rw [edgesL_succ]
    by_cases h : k < m
    · rw [List.getElem?_append_left (by rw [edgesL_length]; omega)]
      exact ih h
    · obtain rfl : k = m := by omega
      rw [List.getElem?_append_right (by rw [edgesL_length]; omega), edgesL_length]
      congr 1
      omega

/-- The three cells of edge k. -/
theorem edge_cells {w : World} {B ge ce q : Nat} {f : Int → Int → Option ByteArray} {p : List Int} (h : w.ownsRow B 49 3 (.slice (some ⟨ge, 0, none⟩) p.length ce) p.length (edgesL f q p p.length))
    {k xn yn : Nat} (hk : k < p.length) (hx : p[k]? = some (xn : Int)) (hy : p[(k + 1) % p.length]? = some (yn : Int)) :
    w.cell? ⟨ge, k * 3, none⟩ = some (.pointer (some ⟨q + xn, 0, none⟩)) ∧ w.cell? ⟨ge, k * 3 + 1, none⟩ = some (.pointer (some ⟨q + yn, 0, none⟩)) ∧ w.cell? ⟨ge, k * 3 + 2, none⟩ = some (.string ((f xn yn).getD ByteArray.empty)) := by
  have e : edgeL f q p k = [.pointer (some ⟨q + xn, 0, none⟩), .pointer (some ⟨q + yn, 0, none⟩), .string ((f xn yn).getD ByteArray.empty)] := by simp [edgeL, List.getD, hx, hy]
  have c := fun i (hi : i < 3) => (h.cellAt (k * 3 + i) (by omega)).trans ((edgesL_at f q p hk hi).trans (by rw [e]))
  exact ⟨by simpa using c 0 (by omega), by simpa using c 1 (by omega), by simpa using c 2 (by omega)⟩

/-- pathBack against a cycle that is no longer than any. -/
theorem G.path_cmp {w : World} {a0 : Option Addr} {n : Nat} {ss : List (ByteArray × Int)} {a1 : Option Addr} {len1 : Nat} {es : List (Int × Int × ByteArray)} {gb : Nat} {ga : Option Addr} {sg mb q : Nat} (h : G w a0 n ss a1 len1 es gb ga sg mb q) (st : Int) (hst : (Lit.int .i64 st).wf = true)
    (L : Nat) (hmin : ∀ c, Closed n (Ed (firstWhy es)) st c → L ≤ c.length) (hit : Prop) (hh : hit → ∃ p, Best n (Ed (firstWhy es)) st p ∧ p.length = L) :
    Calls Try.prog 12 #[.pointer (some ⟨gb, 0, none⟩), .int .i64 st] w fun e w' => Below w.heap.size w w' ∧ ((e = .returned (.slice none 0 0) ∧ ¬ hit) ∨ ∃ g off cap N, e = .returned (.slice (some ⟨g, off, none⟩) N cap) ∧ L ≤ N ∧ (hit → N = L)) := by
  refine (h.path st hst).mono ?_
  rintro e w' ⟨hb, ⟨rfl, hno⟩ | ⟨g, off, cap, p, rfl, _, _, hbest, _⟩⟩
  · exact ⟨hb, .inl ⟨rfl, fun hi => by obtain ⟨p, hp, _⟩ := hh hi; exact hno p hp.1⟩⟩
  · refine ⟨hb, .inr ⟨g, off, cap, p.length, rfl, hmin p hbest.1, fun hi => ?_⟩⟩
    obtain ⟨c, hc, hl⟩ := hh hi
    have h1 := sle_len (hbest.2 c hc.1)
    have h2 := sle_len (hc.2 p hbest.1)
    omega

set_option maxHeartbeats 1000000 in
set_option maxRecDepth 100000 in
theorem walk6 : Walk6 := by
  intro a0 n cap0 ss a1 len1 cap1 es w hs he
  have hm0 := hs.max
  have hm1 := he.max
  unfold maxLen at hm0 hm1
  go_enter Try.func6, Try.ntmps6
  go_wp2_with (first
    | (go_at_call 22; refine (bytes22 a0 n cap0 a1 len1 cap1 _ hs.max he.max hs.name he.why).mono ?_; rintro e w' ⟨⟨b, rfl⟩, rfl⟩)
    | (go_at_call 8; refine (bytes8 a0 n cap0 a1 len1 cap1 _ hs.max he.max hs.name he.why).mono ?_; rintro e w' ⟨⟨b8, rfl⟩, rfl⟩))
  all_goals try (go_ret; exact ⟨rfl, Below.refl _ _⟩)
  have hn : n ≤ 256 := by omega
  have hl1 : len1 ≤ 32768 := by omega
  refine (sorts10_full a0 n cap0 ss _ hs hn).mono ?_
  rintro e w1 ⟨ga, sg, q, rfl, hsa, hrw, hblk, hb1⟩
  have he1 := he.below hb1
  go_wp2_with (first
    | (go_at_call 11; refine (edges11 a1 len1 cap1 es _ he1 hl1).mono ?_; rintro e w2 ⟨rfl, hm2, hb2⟩)
    | (go_at_call 9; refine (graph9 ga n n w1.heap.size _).mono ?_; rintro e w3 ⟨rfl, rfl⟩))
  obtain ⟨hG, hb3⟩ := G.mk' hs he hn hsa hrw hblk hb1 hm2 hb2
  generalize w2.alloc (.cells #[.slice ga n n, .map (some w1.heap.size)] 56) = w3 at *
  generalize w2.heap.size = gb at *
  generalize w1.heap.size = mb at *
  clear hb1 hb2 hm2 he1 hs he hsa hrw hblk
  have hb3s := hb3.size
  refine (cycle19 hG).mono ?_
  rintro e w4 ⟨hb4, ⟨rfl, hsh⟩ | ⟨cb, ge, ce, p, rfl, hsh, hcb, hge, hown⟩⟩
  · have hG4 := hG.below hb4
    have hb4w : Below w.heap.size w w4 := hb3.trans (hb4.mono hb3s)
    have Hsh := hid hsh
    clear hsh hG hb4 hb3
    have hpn := fun w => run_eql_pointer_nil (P := Try.prog) w 39 none (by rw [Try.underlying39]; rfl)
    go_wp2_with fail
    go_loopw [9] (fun v ws => ∃ k : Nat, k ≤ n ∧ v = .int .i64 k ∧ Below w4.heap.size w4 ws) (fun v _ => n - (intOf v).toNat)
    case atStart => exact ⟨0, Nat.zero_le _, rfl, Below.refl _ _⟩
    case round =>
      obtain ⟨k, hk, rfl, hb⟩ := hrel
      by_cases hlt : k < n
      · obtain ⟨⟨nm, ix⟩, hx⟩ : ∃ x, ss[k]? = some x := ⟨_, List.getElem?_eq_getElem (by rw [hG4.srt.len]; exact hlt)⟩
        have hGr := hG4.below hb
        obtain ⟨b, off, rfl, _, hc1, _, hwx⟩ := hGr.srt.cells k _ hx
        have Hno := hid (Hsh.out k ix hlt (by rw [List.getElem?_map, hx]; rfl))
        have hqn := fun w => run_neq_slice_nil_any (P := Try.prog) w 32 3 none 0 0 0 0 Try.underlying32
        clear hx
        go_wp2_with (go_at_call 12; refine (hGr.path_none ix hwx Hno.out).mono ?_; rintro e w5 ⟨rfl, hb5⟩)
        go_roundw
        case rel => exact ⟨k + 1, by omega, by go_num, hb.trans (hb5.mono hb.size)⟩
        case measure => simp [intOf]; omega
      · go_wp2
        go_ret
        exact ⟨rfl, hb4w.trans (hb.mono hb4w.size)⟩
  · have hG4 := hG.below hb4
    have hb4w : Below w.heap.size w w4 := hb3.trans (hb4.mono hb3s)
    have hb4s := hb4w.size
    obtain ⟨i1, x1, hi1, hx1, hbest, hnd, hmin1, hmin⟩ := hsh
    have hpos := hbest.1.pos
    have hpl : p.length ≤ n := nodup_le_int n p hnd (fun x hx => by obtain ⟨i, hi, rfl⟩ := List.getElem_of_mem hx; exact hbest.1.range (List.getElem?_eq_getElem hi))
    have hn0 : 0 < n := by omega
    obtain rfl := hG4.sa hn0
    have Hb := hid (show (∀ (i : Nat) (x : Int), p[i]? = some x → inR n x) ∧ (∀ (i : Nat) (x y : Int), p[i]? = some x → p[(i + 1) % p.length]? = some y → Ed (firstWhy es) x y = true) ∧ p.Nodup from ⟨fun i x h => hbest.1.range h, fun i x y h1 h2 => hbest.1.edge h1 h2, hnd⟩)
    have Hmin := hid hmin
    have H1 := hid (show (ss.map (·.2))[i1]? = some x1 ∧ Best n (Ed (firstWhy es)) x1 p from ⟨hx1, hbest⟩)
    clear hbest hnd hmin1 hmin hx1 hG hb4 hb3
    have hpn := fun w => run_eql_pointer_nil (P := Try.prog) w 39 (some ⟨cb, 0, none⟩) (by rw [Try.underlying39]; rfl)
    obtain ⟨i0, hi, hz0, hz1, hz2⟩ := info_parts Try.info4
    have hl0 : ((p.length : Int) == 0) = false := by rw [beq_eq_false_iff_ne]; omega
    have hli : (p.length : Int) ≤ (n : Int) := by omega
    have hli' : decide ((n : Int) < (p.length : Int)) = false := by rw [decide_eq_false_iff_not]; omega
    have hcb4 := World.block_lt_of_cell? _ _ hcb
    have hge4 : ge < w4.heap.size := (hown.lt ge rfl).2
    go_wp2_with (at_make; refine wpList_make_row _ rfl _ _ 34 rfl i0 (.bool false) Try.underlying34 hi hz0 hz1 rfl _ _ _ _ n rfl rfl rfl rfl (by rw [hz2]; omega) (by unfold maxLen; omega) ?_; intro w6 hse hg6 hsz6)
    have hb6 : Below w4.heap.size w4 w6 := (Below.refl _ _).grown hg6 (Nat.le_refl _) (fun k hk => by cases hk)
    have hs6 : w4.heap.size < w6.heap.size := by omega
    clear hg6 hsz6
    go_loopw [12] (fun v ws => ∃ k : Nat, k ≤ p.length ∧ v = .int .i64 k ∧ RowAt ws 4 w4.heap.size 0 n (seenR p n k) ∧ Below w4.heap.size w4 ws) (fun v _ => p.length - (intOf v).toNat)
    case atStart => exact ⟨0, Nat.zero_le _, rfl, by rw [← seenR_zero]; exact hse, hb6⟩
    case round =>
      clear hse hb6 hs6
      obtain ⟨k, hk, rfl, hse, hb⟩ := hrel
      by_cases hlt : k < p.length
      · obtain ⟨hpr, hpe, hnd⟩ := Hb.out
        obtain ⟨x, hx⟩ : ∃ x, p[k]? = some x := ⟨_, List.getElem?_eq_getElem hlt⟩
        obtain ⟨y, hy⟩ : ∃ y, p[(k + 1) % p.length]? = some y := ⟨_, List.getElem?_eq_getElem (Nat.mod_lt _ hpos)⟩
        have hmod : (k + 1) % p.length < p.length := Nat.mod_lt _ hpos
        obtain ⟨z, hz⟩ : ∃ z, p[((k + 1) % p.length + 1) % p.length]? = some z := ⟨_, List.getElem?_eq_getElem (Nat.mod_lt _ hpos)⟩
        have hE := hpe _ _ _ hx hy
        have hxr := hpr _ _ hx
        have hyr := hpr _ _ hy
        have hzr := hpr _ _ hz
        obtain ⟨xn, rfl⟩ : ∃ xn : Nat, x = xn := ⟨x.toNat, by have := hxr.1; omega⟩
        obtain ⟨yn, rfl⟩ : ∃ yn : Nat, y = yn := ⟨y.toNat, by have := hyr.1; omega⟩
        obtain ⟨zn, rfl⟩ : ∃ zn : Nat, z = zn := ⟨z.toNat, by have := hzr.1; omega⟩
        have hxn : xn < n := by have := hxr.2; omega
        have hyn : yn < n := by have := hyr.2; omega
        obtain ⟨k0, k1, k2⟩ := edge_cells hown hlt hx hy
        obtain ⟨m0, _, _⟩ := edge_cells hown hmod hy hz
        have t0 := (hb.cell (p := ⟨ge, k * 3, none⟩) hge4).trans k0
        have t1 := (hb.cell (p := ⟨ge, k * 3 + 1, none⟩) hge4).trans k1
        have t2 := (hb.cell (p := ⟨ge, k * 3 + 2, none⟩) hge4).trans k2
        have t3 := (hb.cell (p := ⟨ge, (k + 1) % p.length * 3, none⟩) hge4).trans m0
        have tc := (hb.cell (p := ⟨cb, 0, none⟩) hcb4).trans hcb
        have hcs : wr.cell? ⟨w4.heap.size, xn, none⟩ = some (.bool false) := by
          have := hse.cell_some (seenR_at p (k := k) hxn)
          rw [notR_seen hnd hx, Nat.zero_add] at this
          exact this
        have hfs : wr.frozen? ⟨w4.heap.size, xn, none⟩ = false := hse.frozen xn
        have hgw : w4.heap.size < wr.heap.size := hse.lt
        have hGr := hG4.below hb
        have hGa := hGr.below ((Below.refl _ _).alloc (Nat.le_refl _) (.cells #[.pointer (some ⟨q + xn, 0, none⟩), .pointer (some ⟨q + yn, 0, none⟩), .string ((firstWhy es xn yn).getD ByteArray.empty)] 49))
        have hmi0 : 0 ≤ ((k : Int) + 1) % (p.length : Int) := Int.emod_nonneg _ (by omega)
        have hmi1 : ((k : Int) + 1) % (p.length : Int) < (p.length : Int) := Int.emod_lt_of_pos _ (by omega)
        have hE' : (firstWhy es xn yn).isSome = true := hE
        have hnp := fun w => neq_ptr_same w ⟨q + yn, 0, none⟩
        have hcbw : cb < wr.heap.size := by omega
        have hgew : ge < wr.heap.size := by omega
        have hnc : cb ≠ w4.heap.size := by omega
        have hng : ge ≠ w4.heap.size := by omega
        have Hx := hid hx
        clear hpr hpe hnd hx hy hz hE hxr hyr hzr k0 k1 k2 m0
        go_wp2_with (go_at_call 23; refine (place23 sg q n ss _ _ (hGa.row hn0) hGa.blk hGa.srt.len (by assumption) hn).mono ?_; rintro e wp ⟨rfl, rfl⟩)
        have hbX : Below w4.heap.size w4 ((wr.setCell ⟨w4.heap.size, xn, none⟩ (.bool true)).alloc (.cells #[.pointer (some ⟨q + xn, 0, none⟩), .pointer (some ⟨q + yn, 0, none⟩), .string ((firstWhy es xn yn).getD ByteArray.empty)] 49)) := (hb.setCell (Nat.le_refl _) _).alloc (by simp; omega) _
        have hseX : RowAt ((wr.setCell ⟨w4.heap.size, xn, none⟩ (.bool true)).alloc (.cells #[.pointer (some ⟨q + xn, 0, none⟩), .pointer (some ⟨q + yn, 0, none⟩), .string ((firstWhy es xn yn).getD ByteArray.empty)] 49)) 4 w4.heap.size 0 n (seenR p n (k + 1)) := by
          have hst := hse.stored xn (.bool true)
          rw [Nat.zero_add, seenR_step p Hx.out] at hst
          exact hst.alloc _
        have x1 : ((wr.setCell ⟨w4.heap.size, xn, none⟩ (.bool true)).alloc (.cells #[.pointer (some ⟨q + xn, 0, none⟩), .pointer (some ⟨q + yn, 0, none⟩), .string ((firstWhy es xn yn).getD ByteArray.empty)] 49)).cell? ⟨wr.heap.size, 1, none⟩ = some (.pointer (some ⟨q + yn, 0, none⟩)) := by rw [World.cell?_alloc_at _ _ _ _ (by simp)]; rfl
        have x2 : ((wr.setCell ⟨w4.heap.size, xn, none⟩ (.bool true)).alloc (.cells #[.pointer (some ⟨q + xn, 0, none⟩), .pointer (some ⟨q + yn, 0, none⟩), .string ((firstWhy es xn yn).getD ByteArray.empty)] 49)).cell? ⟨wr.heap.size, 2, none⟩ = some (.string ((firstWhy es xn yn).getD ByteArray.empty)) := by rw [World.cell?_alloc_at _ _ _ _ (by simp)]; rfl
        have xc := (hbX.cell (p := ⟨cb, 0, none⟩) hcb4).trans hcb
        have x3 := (hbX.cell (p := ⟨ge, (k + 1) % p.length * 3, none⟩) hge4).trans ((hb.cell (p := ⟨ge, (k + 1) % p.length * 3, none⟩) hge4).symm.trans t3)
        have hEd := hG4.edg.below hbX
        generalize ((wr.setCell ⟨w4.heap.size, xn, none⟩ (.bool true)).alloc (.cells #[.pointer (some ⟨q + xn, 0, none⟩), .pointer (some ⟨q + yn, 0, none⟩), .string ((firstWhy es xn yn).getD ByteArray.empty)] 49)) = wX at *
        clear hse hb t0 t1 t2 t3 tc hcs hfs hGr hGa
        refine (why21 a1 len1 cap1 es xn yn _ hEd).mono ?_
        rintro e wp ⟨rfl, rfl⟩
        obtain ⟨s0, hs0⟩ : ∃ s0, s0 = (firstWhy es xn yn).getD ByteArray.empty := ⟨_, rfl⟩
        rw [← hs0] at x2 ⊢
        rw [hE']
        clear hs0 hE' hEd
        go_wp2_with fail
        go_quiet (fail)
        go_wp2
        go_roundw
        case rel => exact ⟨k + 1, by omega, by go_num, hseX.of_block rfl, below_drewN hbX _⟩
        case measure => simp [intOf]; omega
      · clear hse
        go_wp2_with fail
        go_loopw [18, 19] (fun at_ v ws => ∃ (j : Nat) (bq : Bool), j ≤ n ∧ v = .int .i64 j ∧ at_ = .bool bq ∧ (i1 < j → bq = true) ∧ Below w4.heap.size w4 ws) (fun _ v _ => n - (intOf v).toNat)
        case atStart => exact ⟨0, false, Nat.zero_le _, rfl, rfl, fun h => by omega, hb⟩
        case round =>
          clear hb hk hlt
          obtain ⟨j, bq, hj, rfl, rfl, hbq, hb⟩ := hrel
          by_cases hlt : j < n
          · obtain ⟨⟨nm, ix⟩, hx⟩ : ∃ x, ss[j]? = some x := ⟨_, List.getElem?_eq_getElem (by rw [hG4.srt.len]; exact hlt)⟩
            have hGr := hG4.below hb
            obtain ⟨b, off, rfl, _, hc1, _, hwx⟩ := hGr.srt.cells j _ hx
            have hix : (ss.map (·.2))[j]? = some ix := by rw [List.getElem?_map, hx]; rfl
            have Hm := hid (fun c hc => Hmin.out j ix hlt hix c hc)
            have Hh := hid (show j = i1 → ∃ p', Best n (Ed (firstWhy es)) ix p' ∧ p'.length = p.length from fun e => by
              subst e
              have h1 := H1.out.1
              rw [hix] at h1
              cases h1
              exact ⟨p, H1.out.2, rfl⟩)
            have hq0 := fun w => run_neq_slice_nil_any (P := Try.prog) w 32 3 none 0 0 0 0 Try.underlying32
            have hq1 := fun w g off n c => run_neq_slice_nil_any (P := Try.prog) w 32 3 (some ⟨g, off, none⟩) n c 0 0 Try.underlying32
            have Hbq := hid hbq
            have hbs := hb.size
            clear hx hix hbq
            go_wp2_with (go_at_call 12; refine (hGr.path_cmp ix hwx p.length Hm.out (j = i1) Hh.out).mono ?_; rintro e w5 ⟨hb5, ⟨rfl, hne⟩ | ⟨g5, off5, cap5, N, rfl, hN, hNe⟩⟩)
            · have hb5' := hb.trans (hb5.mono hbs)
              go_roundw
              case rel => exact ⟨j + 1, bq, by omega, by go_num, rfl, fun h => Hbq.out (by omega), hb5'⟩
              case measure => simp [intOf]; omega
            · have hb5' := hb.trans (hb5.mono hbs)
              go_roundw
              case rel => exact ⟨j + 1, true, by omega, by go_num, rfl, fun _ => rfl, hb5'⟩
              case measure => simp [intOf]; omega
            · have hb5' := hb.trans (hb5.mono hbs)
              have hne : ((N : Int) == (p.length : Int)) = false := by assumption
              have hji : j ≠ i1 := fun e => by
                have h1 := hNe e
                rw [h1] at hne
                simp at hne
              go_roundw
              case rel => exact ⟨j + 1, bq, by omega, by go_num, rfl, fun h => Hbq.out (by omega), hb5'⟩
              case measure => simp [intOf]; omega
          · have hbt : bq = true := hbq (by omega)
            subst hbt
            go_wp2
            go_ret
            exact ⟨rfl, hb4w.trans (hb.mono hb4s)⟩

end Go.Proofs.Qxb6601988a
