/-
  FnPathBackIsSimpleCycleNoneOnItLonger, walked.
-/
import Derived.Test.Qxb6601988aBytes
import Derived.Test.Qxb6601988aCalls
import Derived.Test.Qxb6601988aLift
import Derived.Deep.QuietTactic
import Derived.BigQuiet
namespace Go.Proofs.Qxb6601988a
open Go.RowKit Go.Proofs.Qxb6601988a.Bfs

/-- Which of 0 .. n-1 stand among the first k of p. -/
def seenL (p : List Int) (n k : Nat) : List Value := (List.range n).map fun (v : Nat) => .bool ((p.take k).contains (v : Int))

theorem seenL_zero (p : List Int) (n : Nat) : List.replicate n (Value.bool false) = seenL p n 0 := by
  simp [seenL, List.map_const']

theorem seenL_at (p : List Int) {n k v : Nat} (hv : v < n) : (seenL p n k)[v]? = some (.bool ((p.take k).contains (v : Int))) := by
  simp [seenL, hv]

theorem seenL_step (p : List Int) {n k v : Nat} (hx : p[k]? = some (v : Int)) : (seenL p n k).set v (.bool true) = seenL p n (k + 1) := by
  apply List.ext_getElem?
  intro i
  by_cases hi : i < n
  · by_cases e : v = i
    · subst e
      rw [List.getElem?_set_self (by simpa [seenL] using hi), seenL_at p hi, take_snoc hx]
      simp
    · rw [List.getElem?_set_ne e, seenL_at p hi, seenL_at p hi, take_snoc hx, List.contains_eq_mem, List.contains_eq_mem]
      have : ¬ (i : Int) = v := by omega
      simp [this]
  · rw [List.getElem?_eq_none (by simp [seenL]; omega), List.getElem?_eq_none (by simp [seenL]; omega)]

theorem not_seen {p : List Int} {k : Nat} {x : Int} (hnd : p.Nodup) (hx : p[k]? = some x) : (p.take k).contains x = false := by
  rw [List.contains_eq_mem, decide_eq_false_iff_not]
  intro hm
  obtain ⟨j, hj, e⟩ := List.getElem_of_mem hm
  rw [List.length_take] at hj
  rw [List.getElem_take] at e
  have hk := (List.getElem?_eq_some_iff.1 hx)
  have h2 := List.pairwise_iff_getElem.1 (List.nodup_iff_pairwise_ne.1 hnd) j k (by omega) hk.1 (by omega)
  exact h2 (e.trans hk.2.symm)

/-- pathBack of a vertex through which a closed walk of L edges leads. -/
theorem path12_on (gb : Nat) (sa : Option Addr) (n sc mb m : Nat) (f : Int → Int → Option ByteArray) (x : Int) (w : World) (c0 : w.cell? ⟨gb, 0, none⟩ = some (.slice sa n sc)) (c1 : w.cell? ⟨gb, 1, none⟩ = some (.map (some mb)))
    (hm : EMap w mb m f) (hn : n ≤ 256) (hx : (Lit.int .i64 x).wf = true) (L : Nat) (hc : ∃ q, Closed n (Ed f) x q ∧ q.length = L) :
    Calls Try.prog 12 #[.pointer (some ⟨gb, 0, none⟩), .int .i64 x] w fun e w' => ∃ g off cap N, e = .returned (.slice (some ⟨g, off, none⟩) N cap) ∧ w'.cell? ⟨g, off, none⟩ = some (.int .i64 x) ∧ 0 < N ∧ N ≤ L ∧ Below w.heap.size w w' := by
  refine (path12 gb sa n sc mb m f x w c0 c1 hm hn hx).mono ?_
  obtain ⟨q, hq, rfl⟩ := hc
  rintro e w' ⟨hb, ⟨_, hno⟩ | ⟨g, off, cap, p, rfl, _, hrow, hbest, _⟩⟩
  · exact absurd hq (hno q)
  · refine ⟨g, off, cap, p.length, rfl, ?_, hbest.1.pos, sle_len (hbest.2 q hq), hb⟩
    have h := hbest.1.1.1
    have := hrow.cell_some (j := 0) (u := .int .i64 x) (by rw [List.getElem?_map, h]; rfl)
    simpa using this

set_option maxHeartbeats 2000000 in
set_option maxRecDepth 100000 in
theorem walk4 : Walk4 := by
  intro a0 n cap0 ss a1 len1 cap1 es st w hs he hst
  have hm0 := hs.max
  have hm1 := he.max
  unfold maxLen at hm0 hm1
  go_enter Try.func4, Try.ntmps4
  go_wp2_with (first
    | (go_at_call 17; refine (bytes17 a0 n cap0 a1 len1 cap1 st _ hs.max he.max hs.name he.why).mono ?_; rintro e w' ⟨⟨b, rfl⟩, rfl⟩)
    | (go_at_call 8; refine (bytes8 a0 n cap0 a1 len1 cap1 _ hs.max he.max hs.name he.why).mono ?_; rintro e w' ⟨⟨b8, rfl⟩, rfl⟩))
  all_goals try (go_ret; exact ⟨rfl, Below.refl _ _⟩)
  have hn : n ≤ 256 := by omega
  have hl1 : len1 ≤ 32768 := by omega
  have hnn : n * n ≤ 65536 := Nat.le_trans (Nat.mul_le_mul hn hn) (by decide)
  refine (sorts10_any a0 n cap0 ss _ hs hn).mono ?_
  rintro e w1 ⟨ga, rfl, hb1⟩
  have he1 := he.below hb1
  go_wp2_with (first
    | (go_at_call 11; refine (edges11 a1 len1 cap1 es _ he1 hl1).mono ?_; rintro e w2 ⟨rfl, hm2, hb2⟩)
    | (go_at_call 9; refine (graph9 ga n n w1.heap.size _).mono ?_; rintro e w3 ⟨rfl, rfl⟩))
  have hs1 := hb1.size
  have hs2 := hb2.size
  have hlt2 := hm2.lt
  have d0 : (w2.alloc (.cells #[.slice ga n n, .map (some w1.heap.size)] 56)).cell? ⟨w2.heap.size, 0, none⟩ = some (.slice ga n n) := by simp
  have d1 : (w2.alloc (.cells #[.slice ga n n, .map (some w1.heap.size)] 56)).cell? ⟨w2.heap.size, 1, none⟩ = some (.map (some w1.heap.size)) := by simp
  have hm3 := hm2.alloc (.cells #[.slice ga n n, .map (some w1.heap.size)] 56)
  have he3 := he1.below (hb2.alloc hs2 (.cells #[.slice ga n n, .map (some w1.heap.size)] 56))
  have hb3 : Below w.heap.size w (w2.alloc (.cells #[.slice ga n n, .map (some w1.heap.size)] 56)) := (hb1.trans (hb2.mono hs1)).alloc (by omega) _
  generalize w2.alloc (.cells #[.slice ga n n, .map (some w1.heap.size)] 56) = w3 at *
  generalize w2.heap.size = gb at *
  generalize w1.heap.size = mb at *
  clear hb1 hb2 hs1 hs2 hm2 he1 hlt2 hs he
  have hb3s := hb3.size
  refine (path12 gb ga n n mb len1 (firstWhy es) st w3 d0 d1 hm3 hn hst).mono ?_
  rintro e w4 ⟨hb4, ⟨rfl, hno⟩ | ⟨g, off, cap, p, rfl, hg, hrow, hbest, hnd⟩⟩
  · have hq := fun w => Lib.run_eql_slice_nil (P := Try.prog) w 32 3 none 0 0 0 0 Try.underlying32
    have hb4w : Below w.heap.size w w4 := hb3.trans (hb4.mono hb3s)
    have he4 := he3.below hb4
    by_cases hr : 0 ≤ st ∧ st < n
    · obtain ⟨r0, r1⟩ := hr
      obtain ⟨sn, rfl⟩ : ∃ sn : Nat, st = sn := ⟨st.toNat, by omega⟩
      have hsn : sn < n := by omega
      have hself : adjOf es sn sn = false := by
        have h1 : ¬ (firstWhy es sn sn).isSome = true := fun h => hno _ (closed_one ⟨r0, r1⟩ h)
        rw [firstWhy_adj] at h1
        simpa using h1
      have Hno := hid hno
      clear hno
      have hix := ix_lt hsn hsn
      go_wp2_with (go_at_call 13; refine (adj13 a1 len1 cap1 n es _ he4 hn).mono ?_; rintro e w5 ⟨ag, rfl, hag, harow, hb5⟩; have hac := harow.cell_some (mat_at (adjOf es) hsn hsn); simp only [Nat.zero_add, hself] at hac)
      go_ret
      exact ⟨rfl, hb4w.trans (hb5.mono hb4w.size)⟩
    · have Hno := hid hno
      clear hno
      go_wp2
      all_goals first
        | (go_ret; exact ⟨rfl, hb4w⟩)
        | (exfalso; omega)
  · have hsr := hbest.1.2.1
    obtain ⟨r0, r1⟩ := hsr
    obtain ⟨sn, rfl⟩ : ∃ sn : Nat, st = sn := ⟨st.toNat, by omega⟩
    have hsn : sn < n := by omega
    have hix := ix_lt hsn hsn
    have hq := fun w => Lib.run_eql_slice_nil (P := Try.prog) w 32 3 (some ⟨g, off, none⟩) p.length cap 0 0 Try.underlying32
    have hb4w : Below w.heap.size w w4 := hb3.trans (hb4.mono hb3s)
    have he4 := he3.below hb4
    have hpos := hbest.1.pos
    have hpl : p.length ≤ n := nodup_le_int n p hnd (fun x hx => by obtain ⟨i, hi, rfl⟩ := List.getElem_of_mem hx; exact hbest.1.range (List.getElem?_eq_getElem hi))
    have HB := hid (And.intro hbest hnd)
    have hp0 : w4.cell? ⟨g, off, none⟩ = some (.int .i64 sn) := by
      have h := hbest.1.1.1
      have := hrow.cell_some (j := 0) (u := .int .i64 sn) (by rw [List.getElem?_map, h]; rfl)
      simpa using this
    have hself : adjOf es sn sn = true → p.length = 1 := fun h => by
      have := sle_len (hbest.2 _ (closed_one ⟨r0, r1⟩ (by show (firstWhy es sn sn).isSome = true; rw [firstWhy_adj]; exact h)))
      simp at this
      omega
    have Hself := hid hself
    clear hbest hnd hself
    obtain ⟨i0, hi, hz0, hz1, hz2⟩ := info_parts Try.info4
    have hg4 := hrow.lt
    have hl0 : ((p.length : Int) == 0) = false := by rw [beq_eq_false_iff_ne]; omega
    have hli : (p.length : Int) ≤ (n : Int) := by omega
    have hli' : decide ((n : Int) < (p.length : Int)) = false := by rw [decide_eq_false_iff_not]; omega
    have hrow4 := hrow
    obtain ⟨bq, hsl, hne⟩ : ∃ bq, adjOf es sn sn = bq ∧ (bq = false ∨ (bq = true ∧ ((p.length : Int) != 1) = false)) := by
      refine ⟨_, rfl, ?_⟩
      cases h : adjOf es sn sn with
      | false => exact .inl rfl
      | true => exact .inr ⟨rfl, by have := Hself.out h; simp [this]⟩
    rcases hne with rfl | ⟨rfl, hne1⟩
    all_goals
      go_wp2_with (first
        | (go_at_call 13; refine (adj13 a1 len1 cap1 n es _ he4 hn).mono ?_; rintro e w5 ⟨ag, rfl, hag, harow, hb5⟩; have hac := harow.cell_some (mat_at (adjOf es) hsn hsn); simp only [Nat.zero_add, hsl] at hac; have hp5 := (hb5.cell (p := ⟨g, off, none⟩) hg4).trans hp0)
        | (at_make; refine wpList_make_row _ rfl _ _ 34 rfl i0 (.bool false) Try.underlying34 hi hz0 hz1 rfl _ _ _ _ n rfl rfl rfl rfl (by rw [hz2]; omega) (by unfold maxLen; omega) ?_; intro w6 hse hg6 hsz6))
      have hrow5 := hrow.below hb5 hg4
      have hb6 : Below w5.heap.size w5 w6 := (Below.refl _ _).grown hg6 (Nat.le_refl _) (fun k hk => by cases hk)
      have hag5 := harow.lt
      have hg5 := hrow5.lt
      have hb5w : Below w.heap.size w w5 := hb4w.trans (hb5.mono hb4w.size)
      have hs5 := hb5w.size
      have dd0 : w5.cell? ⟨gb, 0, none⟩ = some (.slice ga n n) := (hb5.cell (by have := hb4.size; have := World.block_lt_of_cell? _ _ d0; simp at this ⊢; omega)).trans ((hb4.cell (World.block_lt_of_cell? _ _ d0)).trans d0)
      have dd1 : w5.cell? ⟨gb, 1, none⟩ = some (.map (some mb)) := (hb5.cell (by have := hb4.size; have := World.block_lt_of_cell? _ _ d0; simp at this ⊢; omega)).trans ((hb4.cell (World.block_lt_of_cell? _ _ d1)).trans d1)
      have hm5 : EMap w5 mb len1 (firstWhy es) := (hm3.below hb4 hm3.lt).below hb5 (hm3.below hb4 hm3.lt).lt
      clear hp0 hac hp5 hb4 hb4w hb3 hm3 he3 he4 hg6 hrow hrow4 hb5 d0 d1 hg4
      have Hsz6 := hid hsz6
      clear hsz6
      go_loopw [14] (fun i ws => ∃ k : Nat, k ≤ p.length ∧ i = .int .i64 k ∧ RowAt ws 4 w5.heap.size 0 n (seenL p n k) ∧ Below w5.heap.size w5 ws) (fun i _ => p.length - (intOf i).toNat)
      case atStart => exact ⟨0, Nat.zero_le _, rfl, by rw [← seenL_zero]; exact hse, hb6⟩
      case round =>
        clear hse hb6
        obtain ⟨k, hk, rfl, hse, hbs⟩ := hrel
        by_cases hlt : k < p.length
        · obtain ⟨hbest, hnd⟩ := HB.out
          obtain ⟨x, hx⟩ : ∃ x, p[k]? = some x := ⟨_, List.getElem?_eq_getElem hlt⟩
          obtain ⟨y, hy⟩ : ∃ y, p[(k + 1) % p.length]? = some y := ⟨_, List.getElem?_eq_getElem (Nat.mod_lt _ hpos)⟩
          have hxr := hbest.1.range hx
          have hyr := hbest.1.range hy
          have hE := hbest.1.edge hx hy
          obtain ⟨vn, rfl⟩ : ∃ vn : Nat, x = vn := ⟨x.toNat, by have := hxr.1; omega⟩
          obtain ⟨yn, rfl⟩ : ∃ yn : Nat, y = yn := ⟨y.toNat, by have := hyr.1; omega⟩
          have hvn : vn < n := by have := hxr.2; omega
          have hyn : yn < n := by have := hyr.2; omega
          have hmod : (k + 1) % p.length < p.length := Nat.mod_lt _ hpos
          have hcx : wr.cell? ⟨g, off + k, none⟩ = some (.int .i64 vn) := (hrow5.below hbs hg5).cell_some (by rw [List.getElem?_map, hx]; rfl)
          have hcy : wr.cell? ⟨g, off + (k + 1) % p.length, none⟩ = some (.int .i64 yn) := (hrow5.below hbs hg5).cell_some (by rw [List.getElem?_map, hy]; rfl)
          have hcs : wr.cell? ⟨w5.heap.size, vn, none⟩ = some (.bool false) := by
            have := hse.cell_some (seenL_at p (k := k) hvn)
            rw [not_seen hnd hx, Nat.zero_add] at this
            exact this
          have hfs : wr.frozen? ⟨w5.heap.size, vn, none⟩ = false := hse.frozen vn
          have hca : wr.cell? ⟨ag, vn * n + yn, none⟩ = some (.bool true) := by
            have := (harow.below hbs hag5).cell_some (mat_at (adjOf es) hvn hyn)
            rw [← firstWhy_adj, show (firstWhy es vn yn).isSome = true from hE, Nat.zero_add] at this
            exact this
          have hn1 : g ≠ w5.heap.size := by omega
          have hn2 : ag ≠ w5.heap.size := by omega
          have hix2 := ix_lt hvn hyn
          have hmi0 : 0 ≤ ((k : Int) + 1) % (p.length : Int) := Int.emod_nonneg _ (by omega)
          have hmi1 : ((k : Int) + 1) % (p.length : Int) < (p.length : Int) := Int.emod_lt_of_pos _ (by omega)
          have Hx := hid hx
          clear hbest hnd hx hy hxr hyr hE
          go_wp2
          go_roundw
          case rel =>
            refine ⟨k + 1, by omega, by go_num, ?_, hbs.setCell (Nat.le_refl _) _⟩
            have hst := hse.stored vn (.bool true)
            rw [Nat.zero_add, seenL_step p Hx.out] at hst
            exact hst
          case measure => simp [intOf]; omega
        · clear hse
          go_wp2_with fail
          go_loopw [17] (fun i ws => ∃ j : Nat, j ≤ p.length ∧ i = .int .i64 j ∧ Below w5.heap.size w5 ws) (fun i _ => p.length - (intOf i).toNat)
          case atStart => exact ⟨0, Nat.zero_le _, rfl, hbs⟩
          case round =>
            clear hbs hlt hk
            obtain ⟨j, hj, rfl, hbs⟩ := hrel
            by_cases hlt : j < p.length
            · obtain ⟨hbest, hnd⟩ := HB.out
              obtain ⟨x, hx⟩ : ∃ x, p[j]? = some x := ⟨_, List.getElem?_eq_getElem hlt⟩
              have hxr := hbest.1.range hx
              have wx := wf_of hn hxr
              have hturn := hbest.1.turn hx
              have hcx : wr.cell? ⟨g, off + j, none⟩ = some (.int .i64 x) := (hrow5.below hbs hg5).cell_some (by rw [List.getElem?_map, hx]; rfl)
              have e0 : wr.cell? ⟨gb, 0, none⟩ = some (.slice ga n n) := (hbs.cell (World.block_lt_of_cell? _ _ dd0)).trans dd0
              have e1 : wr.cell? ⟨gb, 1, none⟩ = some (.map (some mb)) := (hbs.cell (World.block_lt_of_cell? _ _ dd1)).trans dd1
              have hme := hm5.below hbs hm5.lt
              have Ht := hid hturn
              clear hbest hnd hx hxr hturn
              go_wp2_with (go_at_call 12; refine (path12_on gb ga n n mb len1 (firstWhy es) x _ e0 e1 hme hn wx p.length Ht.out).mono ?_; rintro e w7 ⟨g7, off7, cap7, N, rfl, hc7, hN0, hN1, hb7⟩)
              have hq7 := fun w => Lib.run_eql_slice_nil (P := Try.prog) w 32 3 (some ⟨g7, off7, none⟩) N cap7 0 0 Try.underlying32
              have hcx7 : w7.cell? ⟨g, off + j, none⟩ = some (.int .i64 x) := (hb7.cell (World.block_lt_of_cell? _ _ hcx)).trans hcx
              have hNl : decide ((p.length : Int) < (N : Int)) = false := by rw [decide_eq_false_iff_not]; omega
              have hNi : (0 : Int) < (N : Int) := by omega
              have hji : (j : Int) < (p.length : Int) := by omega
              have hxx : (x != x) = false := by simp
              clear hcx e0 e1 hme Ht wx
              go_quiet (fail)
              go_wp2
              go_roundw
              case rel => exact ⟨j + 1, by omega, by go_num, below_drewN (hbs.trans (hb7.mono hbs.size)) _⟩
              case measure => simp [intOf]; omega
            · go_wp2
              go_ret
              exact ⟨rfl, hb5w.trans (hbs.mono hs5)⟩

end Go.Proofs.Qxb6601988a
