/-
  zzDistancesHB1, walked.
-/
import Derived.Test.Qxb6601988aMat
import Derived.Test.Qxb6601988aDist
import Derived.Test.Qxb6601988aPath
import Derived.RegionTactic
import Derived.BigRegion
import Derived.Deep.QuietTactic
import Derived.BigQuiet
namespace Go.Proofs.Qxb6601988a
open Go.RowKit Go.Proofs.Qxb6601988a.Bfs

/-- A square of numbers in a row. -/
def matI (n : Nat) (D : Int → Int → Int) : List Value := (List.range (n * n)).map fun i => .int .i64 (D ((i / n : Nat) : Int) ((i % n : Nat) : Int))

theorem matI_length (n : Nat) (D : Int → Int → Int) : (matI n D).length = n * n := by simp [matI]

theorem matI_at {n : Nat} (D : Int → Int → Int) {f t : Nat} (hf : f < n) (ht : t < n) : (matI n D)[f * n + t]? = some (.int .i64 (D f t)) := by
  have h := ix_lt hf ht
  unfold matI
  rw [List.getElem?_map, List.getElem?_range h, Option.map_some, ix_div ht, ix_mod ht]

theorem matI_congr {n : Nat} {D D' : Int → Int → Int} (h : ∀ i j : Nat, i < n → j < n → D i j = D' i j) : matI n D = matI n D' := by
  unfold matI
  apply List.map_congr_left
  intro i hi
  have hi' : i < n * n := by simpa using hi
  have hn0 : 0 < n := by
    rcases Nat.eq_zero_or_pos n with h | h
    · subst h; simp at hi'
    · exact h
  rw [h _ _ (Nat.div_lt_of_lt_mul hi') (Nat.mod_lt _ hn0)]

theorem matI_set {n : Nat} (D D' : Int → Int → Int) {f t : Nat} (hf : f < n) (ht : t < n) (v : Int) (h1 : D' f t = v) (h2 : ∀ i j : Nat, i < n → j < n → ¬ (i = f ∧ j = t) → D' i j = D i j) :
    (matI n D).set (f * n + t) (.int .i64 v) = matI n D' := by
  apply List.ext_getElem?
  intro i
  have h := ix_lt hf ht
  by_cases hi : i = f * n + t
  · subst hi
    rw [List.getElem?_set_self (by rw [matI_length]; exact h), matI_at D' hf ht, h1]
  · rw [List.getElem?_set_ne (fun e => hi e.symm)]
    by_cases hlt : i < n * n
    · simp only [matI, List.getElem?_map, List.getElem?_range hlt, Option.map_some]
      have hn : 0 < n := by omega
      rw [h2 (i / n) (i % n) (Nat.div_lt_of_lt_mul hlt) (Nat.mod_lt _ hn) (fun ⟨e1, e2⟩ => hi (by rw [← e1, ← e2, Nat.mul_comm]; exact (Nat.div_add_mod i n).symm))]
    · rw [List.getElem?_eq_none (by rw [matI_length]; omega), List.getElem?_eq_none (by rw [matI_length]; omega)]

theorem matI_zero (n : Nat) (D : Int → Int → Int) (h : ∀ i j : Nat, D i j = 0) : List.replicate (n * n) (Value.int .i64 0) = matI n D := by
  unfold matI
  rw [List.map_congr_left (g := fun _ => Value.int .i64 0) (fun i _ => by rw [h]), List.map_const', List.length_range]

/-- The table while it is begun: what stands ahead of (i, j) is laid. -/
def pI (n : Nat) (E : Int → Int → Bool) (i j : Nat) (a b : Int) : Int := if a < i ∨ (a = i ∧ b < j) then initD n E a b else 0

theorem pI_set {n : Nat} {E : Int → Int → Bool} {i j : Nat} (hi : i < n) (hj : j < n) (v : Int) (hv : initD n E i j = v) : (matI n (pI n E i j)).set (i * n + j) (.int .i64 v) = matI n (pI n E i (j + 1)) := by
  refine matI_set _ _ hi hj v ?_ (fun a b ha hb hne => ?_)
  · unfold pI
    rw [if_pos (by right; omega), hv]
  · unfold pI
    by_cases h : (a : Int) < i ∨ ((a : Int) = i ∧ (b : Int) < j)
    · rw [if_pos (by omega), if_pos h]
    · rw [if_neg (by omega), if_neg h]

theorem pI_row (n : Nat) (E : Int → Int → Bool) (i : Nat) : matI n (pI n E i n) = matI n (pI n E (i + 1) 0) := by
  refine matI_congr fun a b ha hb => ?_
  unfold pI
  by_cases h : (a : Int) < i ∨ ((a : Int) = i ∧ (b : Int) < n)
  · rw [if_pos h, if_pos (by omega)]
  · rw [if_neg h, if_neg (by omega)]

theorem pI_end (n : Nat) (E : Int → Int → Bool) : matI n (pI n E n 0) = matI n (initD n E) := by
  refine matI_congr fun a b ha hb => ?_
  unfold pI
  rw [if_pos (by omega)]

/-- 'n*n' that the walk meets -/
theorem sq_int (n : Nat) : (n : Int) * (n : Int) = ((n * n : Nat) : Int) := by simp

set_option maxHeartbeats 1000000 in
set_option maxRecDepth 100000 in
theorem dist14 (ag n : Nat) (E : Int → Int → Bool) (w : World) (ha : RowAt w 4 ag 0 (n * n) (mat n (fun i j => E i j))) (hn : n ≤ 256) :
    Calls Try.prog 14 #[.slice (some ⟨ag, 0, none⟩) (n * n) (n * n), .int .i64 n] w fun e w' => ∃ g D, e = .returned (.slice (some ⟨g, 0, none⟩) (n * n) (n * n)) ∧ w.heap.size ≤ g ∧ RowAt w' 3 g 0 (n * n) (matI n D) ∧ Dist n E D ∧ Below w.heap.size w w' := by
  obtain ⟨i0, hi, hz0, hz1, hz2⟩ := info_parts Try.info3
  have hnn : n * n ≤ 65536 := Nat.le_trans (Nat.mul_le_mul hn hn) (by decide)
  have hq0 : 0 ≤ (n : Int) * (n : Int) := by rw [sq_int]; omega
  have hq1 : (n : Int) * (n : Int) ≤ 65536 := by rw [sq_int]; omega
  have hag := ha.lt
  go_enter Try.func14, Try.ntmps14
  go_wp2_with (at_make; refine wpList_make_row _ rfl _ _ 32 rfl i0 (.int .i64 0) Try.underlying32 hi hz0 hz1 rfl _ _ _ _ (n * n) rfl rfl (sq_int n) (sq_int n) (by rw [hz2]; omega) (by unfold maxLen; omega) ?_)
  intro w1 hrow hgrow hsz
  have hb1 : Below w.heap.size w w1 := (Below.refl _ _).grown hgrow (Nat.le_refl _) (fun k hk => by cases hk)
  have Hsz := hid hsz
  clear hsz hgrow
  go_wp2_with fail
  go_loopg [7] n (fun gk v wr => ∃ i : Nat, i ≤ n ∧ v = .int .i64 i ∧ RowAt wr 3 w.heap.size 0 (n * n) (matI n (pI n E i 0)) ∧ Below w.heap.size w wr ∧ n ≤ gk + i)
  case atStart => exact ⟨0, Nat.zero_le _, rfl, by rw [← matI_zero n (pI n E 0 0) (by intro i j; unfold pI; rw [if_neg (by omega)])]; exact hrow, hb1, by omega⟩
  case round =>
    clear hrow hb1 Hsz
    obtain ⟨gA, rfl⟩ : ∃ x, x = gk := ⟨_, rfl⟩
    obtain ⟨i, hin, rfl, hr, hb, hgk⟩ := hrel
    have Hgk := hid hgk
    clear hgk
    by_cases hlt : i < n
    · go_wp2_with fail
      go_loopg [8] n (fun gk v ws => ∃ j : Nat, j ≤ n ∧ v = .int .i64 j ∧ RowAt ws 3 w.heap.size 0 (n * n) (matI n (pI n E i j)) ∧ Below w.heap.size w ws ∧ n ≤ gk + j)
      case atStart => exact ⟨0, Nat.zero_le _, rfl, hr, hb, by omega⟩
      case round =>
        clear hr hb
        obtain ⟨gB, rfl⟩ : ∃ x, x = gk := ⟨_, rfl⟩
        obtain ⟨j, hjn, rfl, hr, hb, hgk⟩ := hrel
        have Hgj := hid hgk
        clear hgk
        by_cases hj : j < n
        · have hix := ix_lt hlt hj
          have hfr := hr.frozen (i * n + j)
          obtain ⟨c0, hcc⟩ : ∃ c0, wr.cell? ⟨w.heap.size, 0 + (i * n + j), none⟩ = some c0 := ⟨_, hr.cell_some (matI_at _ hlt hj)⟩
          have hca := (ha.below hb hag).cell_some (mat_at (fun i j => E i j) hlt hj)
          simp only [Nat.zero_add] at hcc hca
          by_cases hij : i = j
          · have hb0 : ((i : Int) == (j : Int)) = true := by rw [beq_iff_eq, hij]
            have Hs := hid (pI_set (E := E) hlt hj 0 (by rw [hij]; simp [initD]))
            clear hij
            go_wp2
            go_roundg (gB - 1)
            case measure => have := Hgj.out; omega
            case rel =>
              refine ⟨j + 1, by omega, by go_num, ?_, hb.setCell (Nat.le_refl _) _, by have := Hgj.out; omega⟩
              have hst := hr.stored (i * n + j) (.int .i64 0)
              rw [Nat.zero_add, Hs.out] at hst
              exact hst
          · have hb0 : ((i : Int) == (j : Int)) = false := by rw [beq_eq_false_iff_ne]; omega
            have hij' : ¬ (i : Int) = j := by omega
            by_cases hE : E i j = true
            · have Hs := hid (pI_set (E := E) hlt hj 1 (by simp [initD, hij', hE]))
              clear hij hij'
              go_wp2
              go_roundg (gB - 1)
              case measure => have := Hgj.out; omega
              case rel =>
                refine ⟨j + 1, by omega, by go_num, ?_, hb.setCell (Nat.le_refl _) _, by have := Hgj.out; omega⟩
                have hst := hr.stored (i * n + j) (.int .i64 1)
                rw [Nat.zero_add, Hs.out] at hst
                exact hst
            · have hE' : E i j = false := by simpa using hE
              have Hs := hid (pI_set (E := E) hlt hj (n + 1) (by simp [initD, hij', hE']))
              clear hij hij' hE
              go_wp2
              go_roundg (gB - 1)
              case measure => have := Hgj.out; omega
              case rel =>
                refine ⟨j + 1, by omega, by go_num, ?_, hb.setCell (Nat.le_refl _) _, by have := Hgj.out; omega⟩
                have hst := hr.stored (i * n + j) (.int .i64 (n + 1))
                rw [Nat.zero_add, Hs.out] at hst
                exact hst
        · have Hj := hid (show j = n by omega)
          go_wp2
          go_roundg (gA - 1)
          case measure => have := Hgk.out; omega
          case rel =>
            refine ⟨i + 1, by omega, by go_num, ?_, hb, by have := Hgk.out; omega⟩
            have h := hr
            rw [Hj.out, pI_row] at h
            exact h
    · have hr' : RowAt wr 3 w.heap.size 0 (n * n) (matI n (initD n E)) := by
        have h := hr
        rw [show i = n by omega, pI_end] at h
        exact h
      clear hr
      go_wp2_with fail
      go_loopg [9] n (fun gk v ws => ∃ (k : Nat) (D : Int → Int → Int), k ≤ n ∧ v = .int .i64 k ∧ RowAt ws 3 w.heap.size 0 (n * n) (matI n D) ∧ Snd n E D ∧ Cmp n E k D ∧ Below w.heap.size w ws ∧ n ≤ gk + k)
      case atStart => exact ⟨0, _, Nat.zero_le _, rfl, hr', snd_init, cmp_init, hb, by omega⟩
      case round =>
        clear hr' hb hin hlt Hgk
        obtain ⟨gC, rfl⟩ : ∃ x, x = gk := ⟨_, rfl⟩
        obtain ⟨k, D, hk, rfl, hr, hS, hC, hb, hgk⟩ := hrel
        have Hgk := hid hgk
        clear hgk
        by_cases hlt : k < n
        · have hkr : inR n k := ⟨by omega, by omega⟩
          have hph := ph_start hS hC
          clear hS hC
          go_wp2_with fail
          go_loopg [10] n (fun gk v ws => ∃ (i : Nat) (D' : Int → Int → Int), i ≤ n ∧ v = .int .i64 i ∧ RowAt ws 3 w.heap.size 0 (n * n) (matI n D') ∧ Ph n E k D D' i 0 ∧ Below w.heap.size w ws ∧ n ≤ gk + i)
          case atStart => exact ⟨0, D, Nat.zero_le _, rfl, hr, hph, hb, by omega⟩
          case round =>
            clear hr hph hb
            obtain ⟨gD, rfl⟩ : ∃ x, x = gk := ⟨_, rfl⟩
            obtain ⟨i, Di, hin, rfl, hr, hph, hb, hgk⟩ := hrel
            have Hgi := hid hgk
            clear hgk
            by_cases hi2 : i < n
            · have hir : inR n i := ⟨by omega, by omega⟩
              go_wp2_with fail
              go_loopg [11] n (fun gk v ws => ∃ (j : Nat) (D' : Int → Int → Int), j ≤ n ∧ v = .int .i64 j ∧ RowAt ws 3 w.heap.size 0 (n * n) (matI n D') ∧ Ph n E k D D' i j ∧ Below w.heap.size w ws ∧ n ≤ gk + j)
              case atStart => exact ⟨0, Di, Nat.zero_le _, rfl, hr, hph, hb, by omega⟩
              case round =>
                clear hr hph hb
                obtain ⟨gE, rfl⟩ : ∃ x, x = gk := ⟨_, rfl⟩
                obtain ⟨j, Dj, hjn, rfl, hr, hph, hb, hgk⟩ := hrel
                have Hgj := hid hgk
                clear hgk
                by_cases hj2 : j < n
                · have hjr : inR n j := ⟨by omega, by omega⟩
                  have b1 := hph.snd.lo i k hir hkr
                  have b2 := hph.snd.hi i k hir hkr
                  have b3 := hph.snd.lo k j hkr hjr
                  have b4 := hph.snd.hi k j hkr hjr
                  have b5 := hph.snd.lo i j hir hjr
                  have b6 := hph.snd.hi i j hir hjr
                  have q1 := hr.cell_some (matI_at Dj hi2 hlt)
                  have q2 := hr.cell_some (matI_at Dj hlt hj2)
                  have q3 := hr.cell_some (matI_at Dj hi2 hj2)
                  have hfr := hr.frozen (i * n + j)
                  have x1 := ix_lt hi2 hlt
                  have x2 := ix_lt hlt hj2
                  have x3 := ix_lt hi2 hj2
                  simp only [Nat.zero_add] at q1 q2 q3
                  have hskip := hph.skip (j := (j : Int)) hkr
                  have hset := hph.set (j := (j : Int)) hkr hir hjr
                  have Hset := hid hset
                  have Hskip := hid hskip
                  clear hset hskip
                  obtain ⟨z1, hz1e⟩ : ∃ z, z = Dj i k := ⟨_, rfl⟩
                  obtain ⟨z2, hz2e⟩ : ∃ z, z = Dj k j := ⟨_, rfl⟩
                  obtain ⟨z3, hz3e⟩ : ∃ z, z = Dj i j := ⟨_, rfl⟩
                  rw [← hz1e] at b1 b2 q1
                  rw [← hz2e] at b3 b4 q2
                  rw [← hz3e] at b5 b6 q3
                  have HZ := hid (And.intro hz1e (And.intro hz2e hz3e))
                  clear hz1e hz2e hz3e
                  by_cases hd : z1 + z2 < z3
                  · go_wp2_with fail
                    go_quiet (fail)
                    go_wp2_with fail
                    go_region
                    go_wp2
                    go_roundg (gE - 1)
                    case measure => have := Hgj.out; omega
                    case rel =>
                      obtain ⟨e1, e2, e3⟩ := HZ.out
                      have hb' := hb.setCell (p := ⟨w.heap.size, i * n + j, none⟩) (Nat.le_refl _) (.int .i64 (z1 + z2))
                      refine ⟨j + 1, _, by omega, by go_num, ?_, Hset.out (by omega), ⟨hb'.os, hb'.tape, hb'.output, hb'.size, hb'.block⟩, by have := Hgj.out; omega⟩
                      have hst := hr.stored (i * n + j) (.int .i64 (z1 + z2))
                      rw [Nat.zero_add, matI_set Dj (fun a b => if a = (i : Int) ∧ b = (j : Int) then Dj i k + Dj k j else Dj a b) hi2 hj2 (z1 + z2) (by simp; omega) (fun a b _ _ hne => by rw [if_neg (by omega)])] at hst
                      exact hst.of_block rfl
                  · go_wp2_with fail
                    go_quiet (fail)
                    go_wp2
                    go_roundg (gE - 1)
                    case measure => have := Hgj.out; omega
                    case rel =>
                      obtain ⟨e1, e2, e3⟩ := HZ.out
                      exact ⟨j + 1, Dj, by omega, by go_num, hr.of_block rfl, Hskip.out (by omega), ⟨hb.os, hb.tape, hb.output, hb.size, hb.block⟩, by have := Hgj.out; omega⟩
                · have Hj := hid (show j = n by omega)
                  go_wp2
                  go_roundg (gD - 1)
                  case measure => have := Hgi.out; omega
                  case rel =>
                    have h := hph
                    rw [Hj.out] at h
                    exact ⟨i + 1, Dj, by omega, by go_num, hr, h.row, hb, by have := Hgi.out; omega⟩
            · have Hi := hid (show i = n by omega)
              go_wp2
              go_roundg (gC - 1)
              case measure => have := Hgk.out; omega
              case rel =>
                have h := hph
                rw [Hi.out] at h
                exact ⟨k + 1, Di, by omega, by go_num, hr, (h.over hkr).1, (h.over hkr).2, hb, by have := Hgk.out; omega⟩
        · have Hk := hid (show k = n by omega)
          have HD := hid (show Dist n E D by have h := hC; rw [Hk.out] at h; exact dist_of hS h)
          clear hS hC
          go_wp2
          go_ret
          exact ⟨_, D, rfl, Nat.le_refl _, hr, HD.out, hb⟩

end Go.Proofs.Qxb6601988a
