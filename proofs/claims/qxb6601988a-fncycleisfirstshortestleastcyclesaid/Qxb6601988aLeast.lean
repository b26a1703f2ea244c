/-
  zzBackLenHB1 and zzLeastCycleHB1, walked.
-/
import Derived.Test.Qxb6601988aFw
namespace Go.Proofs.Qxb6601988a
open Go.RowKit Go.Proofs.Qxb6601988a.Bfs

/-- The least of 1 + D u st over the u below k that st leads to; 0 where there is none. -/
def BL (n : Nat) (E : Int → Int → Bool) (D : Int → Int → Int) (st : Int) (k : Int) (l : Int) : Prop :=
  (l = 0 ∧ ∀ u, 0 ≤ u → u < k → ¬ (E st u = true ∧ D u st ≤ n)) ∨
  (0 < l ∧ l ≤ n + 1 ∧ (∃ u, inR n u ∧ E st u = true ∧ D u st ≤ n ∧ l = 1 + D u st) ∧ ∀ u, 0 ≤ u → u < k → E st u = true → D u st ≤ n → l ≤ 1 + D u st)

theorem BL.start (n : Nat) (E : Int → Int → Bool) (D : Int → Int → Int) (st : Int) : BL n E D st 0 0 := .inl ⟨rfl, fun u h0 h1 => by omega⟩

theorem BL.skip {n : Nat} {E : Int → Int → Bool} {D : Int → Int → Int} {st k l : Int} (h : BL n E D st k l) (hn : ¬ (E st k = true ∧ D k st ≤ n)) : BL n E D st (k + 1) l := by
  rcases h with ⟨h1, h2⟩ | ⟨h1, h2, h3, h4⟩
  · refine .inl ⟨h1, fun u h0 hu => ?_⟩
    by_cases e : u = k
    · subst e; exact hn
    · exact h2 u h0 (by omega)
  · refine .inr ⟨h1, h2, h3, fun u h0 hu hE hD => ?_⟩
    by_cases e : u = k
    · subst e; exact absurd ⟨hE, hD⟩ hn
    · exact h4 u h0 (by omega) hE hD

theorem BL.keep {n : Nat} {E : Int → Int → Bool} {D : Int → Int → Int} {st k l : Int} (h : BL n E D st k l) (hl : ¬ l = 0) (hle : ¬ 1 + D k st < l) : BL n E D st (k + 1) l := by
  rcases h with ⟨h1, h2⟩ | ⟨h1, h2, h3, h4⟩
  · exact absurd h1 hl
  · refine .inr ⟨h1, h2, h3, fun u h0 hu hE hD => ?_⟩
    by_cases e : u = k
    · subst e; omega
    · exact h4 u h0 (by omega) hE hD

theorem BL.take {n : Nat} {E : Int → Int → Bool} {D : Int → Int → Int} {st k l : Int} (h : BL n E D st k l) (hk : inR n k) (hE : E st k = true) (hD : D k st ≤ n) (h0 : 0 ≤ D k st) (hl : l = 0 ∨ 1 + D k st < l) : BL n E D st (k + 1) (1 + D k st) := by
  refine .inr ⟨by omega, by omega, ⟨k, hk, hE, hD, rfl⟩, fun u h0 hu hE' hD' => ?_⟩
  by_cases e : u = k
  · subst e; omega
  · rcases h with ⟨_, h2⟩ | ⟨h1, h2, h3, h4⟩
    · exact absurd ⟨hE', hD'⟩ (h2 u h0 (by omega))
    · have := h4 u h0 (by omega) hE' hD'
      omega

theorem BL.best {n : Nat} {E : Int → Int → Bool} {D : Int → Int → Int} {st l : Int} (h : BL n E D st n l) (hd : Dist n E D) {p : List Int} (hb : Best n E st p) (hl : p.length ≤ n) : l = p.length := by
  obtain ⟨u, hu, hE, hD, he⟩ := hd.of_best hb hl
  rcases h with ⟨_, h2⟩ | ⟨_, _, ⟨v, hv, hvE, hvD, hve⟩, h4⟩
  · exact absurd ⟨hE, hD⟩ (h2 u hu.1 hu.2)
  · have h1 := h4 u hu.1 hu.2 hE hD
    have h2 := hd.best_le hb hv hvE hvD
    omega

theorem BL.none {n : Nat} {E : Int → Int → Bool} {D : Int → Int → Int} {st l : Int} (h : BL n E D st n l) (hd : Dist n E D) (hs : inR n st) (hno : ∀ q, ¬ Closed n E st q) : l = 0 := by
  rcases h with ⟨h1, _⟩ | ⟨_, _, ⟨v, hv, hvE, hvD, _⟩, _⟩
  · exact h1
  · obtain ⟨c, hc, _⟩ := hd.closed hs hv hvE hvD
    exact absurd hc (hno c)

/-- What zzBackLenHB1 answers. -/
def BackPost (n : Nat) (E : Int → Int → Bool) (st : Int) (l : Int) : Prop :=
  (∀ p, Best n E st p → p.length ≤ n → l = p.length) ∧ ((∀ q, ¬ Closed n E st q) → l = 0)

set_option maxHeartbeats 1000000 in
set_option maxRecDepth 100000 in
theorem back20 (ag dg n : Nat) (E : Int → Int → Bool) (D : Int → Int → Int) (st : Int) (w : World) (ha : RowAt w 4 ag 0 (n * n) (mat n (fun i j => E i j))) (hd : RowAt w 3 dg 0 (n * n) (matI n D)) (hD : Dist n E D) (hn : n ≤ 256) :
    Calls Try.prog 20 #[.slice (some ⟨ag, 0, none⟩) (n * n) (n * n), .slice (some ⟨dg, 0, none⟩) (n * n) (n * n), .int .i64 n, .int .i64 st] w fun e w' => ∃ l, e = .returned (.int .i64 l) ∧ BackPost n E st l ∧ w = w' := by
  have hnn : n * n ≤ 65536 := Nat.le_trans (Nat.mul_le_mul hn hn) (by decide)
  by_cases hr : 0 ≤ st ∧ st < n
  · obtain ⟨r0, r1⟩ := hr
    have hsr : inR n st := ⟨r0, r1⟩
    obtain ⟨sn, rfl⟩ : ∃ sn : Nat, st = sn := ⟨st.toNat, by omega⟩
    have hsn : sn < n := by omega
    go_enter Try.func20, Try.ntmps20
    go_wp2_with fail
    go_loop [9, 10] (fun b u => ∃ (k : Nat) (l : Int), k ≤ n ∧ u = .int .i64 k ∧ b = .int .i64 l ∧ Hid (BL n E D sn k l)) (fun _ u => n - (intOf u).toNat)
    case atStart => exact ⟨0, 0, Nat.zero_le _, rfl, rfl, BL.start _ _ _ _⟩
    case round =>
      obtain ⟨k, l, hk, rfl, rfl, hbl⟩ := hrel
      by_cases hlt : k < n
      · have hkr : inR n k := ⟨by omega, by omega⟩
        have x1 := ix_lt hsn hlt
        have x2 := ix_lt hlt hsn
        have q1 := ha.cell_some (mat_at (fun i j => E i j) hsn hlt)
        have q2 := hd.cell_some (matI_at D hlt hsn)
        have b1 := hD.snd.lo k sn hkr hsr
        have b2 := hD.snd.hi k sn hkr hsr
        simp only [Nat.zero_add] at q1 q2
        by_cases hE : E sn k = true
        · obtain ⟨z, hz⟩ : ∃ z, z = D k sn := ⟨_, rfl⟩
          rw [← hz] at q2 b1 b2
          by_cases hle : z ≤ n
          · by_cases hl0 : l = 0
            · have hlb : (l == 0) = true := by simpa using hl0
              have H2 := hid (hbl.out.take hkr hE (by omega) (by omega) (.inl hl0))
              rw [← hz] at H2
              clear hz hl0
              go_wp2
              go_round
              case rel => exact ⟨k + 1, 1 + z, by omega, by go_num, rfl, H2.out⟩
              case measure => simp [intOf]; omega
            · have hlb : (l == 0) = false := by simpa using hl0
              by_cases hlt2 : 1 + z < l
              · have H2 := hid (hbl.out.take hkr hE (by omega) (by omega) (.inr (by omega)))
                rw [← hz] at H2
                clear hz hl0
                go_wp2
                go_round
                case rel => exact ⟨k + 1, 1 + z, by omega, by go_num, rfl, H2.out⟩
                case measure => simp [intOf]; omega
              · have H2 := hid (hbl.out.keep hl0 (by omega))
                clear hz hl0
                go_wp2
                go_round
                case rel => exact ⟨k + 1, l, by omega, by go_num, rfl, H2.out⟩
                case measure => simp [intOf]; omega
          · have H2 := hid (hbl.out.skip (fun h => hle (by omega)))
            clear hz
            go_wp2
            go_round
            case rel => exact ⟨k + 1, l, by omega, by go_num, rfl, H2.out⟩
            case measure => simp [intOf]; omega
        · have hE' : E sn k = false := by simpa using hE
          have H2 := hid (hbl.out.skip (fun h => hE h.1))
          clear hE
          go_wp2
          go_round
          case rel => exact ⟨k + 1, l, by omega, by go_num, rfl, H2.out⟩
          case measure => simp [intOf]; omega
      · have H2 := hid (show BL n E D sn n l by have h := hbl.out; rwa [show k = n by omega] at h)
        go_wp2
        go_ret
        exact ⟨l, rfl, ⟨fun p hb hl => H2.out.best hD hb hl, fun hno => H2.out.none hD hsr hno⟩, rfl⟩
  · have Hno := hid (show ∀ q, ¬ Closed n E st q from fun q hq => hr hq.2.1)
    go_enter Try.func20, Try.ntmps20
    go_wp2
    all_goals first
      | (go_ret; exact ⟨0, rfl, ⟨fun p hb _ => absurd hb.1 (Hno.out p), fun _ => rfl⟩, rfl⟩)
      | (exfalso; omega)

end Go.Proofs.Qxb6601988a
