/-
  (optionFormat).next and ZZoptionFormatNext, walked.
-/
import Derived.Test.Qxb6601535aByteFns
namespace Go.Proofs.Qxb6601535a
open Go.RowKit Go.Proofs.Qxb6601535a.Be

theorem results_tmp4 {fn : Func} {t u v x : Tmp} (h : fn.results = #[.tmp t, .tmp u, .tmp v, .tmp x]) (tmps : Array Value) (P : Program) (w : World) :
    (results fn tmps).run P w = .ok (.tuple #[tmps.getD t undef, tmps.getD u undef, tmps.getD v undef, tmps.getD x undef]) w := by
  simp [results, h]

theorem Rd.front {w : World} {k : IntKind} {a : Option Addr} {n : Nat} {zs : List Int} (h : Rd w k a n zs) (l : Nat) (hl : l ≤ n) : Rd w k a l (zs.take l) := by
  have hlen := h.len
  have hmax := h.max
  refine ⟨by rw [List.length_take]; omega, by omega, fun j x hx => ?_⟩
  by_cases hj : j < l
  · simp only [List.getElem?_take, hj, if_true] at hx
    exact h.cells j x hx
  · simp only [List.getElem?_take, hj, if_false] at hx
    cases hx

/-- What next answers. -/
def NextPost (cs ls m : Nat) (p : Bool) (n : Nat) (bs : List Int) (w : World) (e : Ending) (w' : World) : Prop :=
  Below w.heap.size w w' ∧ ((Stop cs ls m p bs ∧ e = .returned (.tuple #[.int .u64 0, .slice none 0 0, .slice none 0 0, .bool false])) ∨
    (¬ Stop cs ls m p bs ∧ ∃ ap cp ar cr, e = .returned (.tuple #[.int .u64 (be ((bs.drop m).take cs) : Int), .slice ap (pay cs ls m bs) cp, .slice ar (n - (m + (cs + ls) + pay cs ls m bs)) cr, .bool true]) ∧
      Rd w' .u8 ap (pay cs ls m bs) ((bs.drop (m + (cs + ls))).take (pay cs ls m bs)) ∧ Rd w' .u8 ar (n - (m + (cs + ls) + pay cs ls m bs)) (bs.drop (m + (cs + ls) + pay cs ls m bs))))

section
variable {cs ls m : Nat} {p : Bool} {n : Nat} {bs : List Int} {w w' : World}

theorem NextPost.no (hb : Below w.heap.size w w') (hs : Stop cs ls m p bs) : NextPost cs ls m p n bs w (.returned (.tuple #[.int .u64 0, .slice none 0 0, .slice none 0 0, .bool false])) w' := ⟨hb, .inl ⟨hs, rfl⟩⟩

theorem drop_take_len (l : List Int) (i k : Nat) (hk : l.length = i + k) : (l.drop i).take k = l.drop i := List.take_of_length_le (by rw [List.length_drop]; omega)

/-- The answer, off the cells: the rest of the list from m on lies at b, off. -/
theorem NextPost.yes {b off N : Nat} {cur : List Int} (hb : Below w.heap.size w w') (hx : Rd w' .u8 (some ⟨b, off, none⟩) N cur) (hcur : cur = bs.drop m) (hN : N + m = n) (hs : ¬ Stop cs ls m p bs) (L : Nat) (hL : L = pay cs ls m bs) (hle : cs + ls + L ≤ N)
    (u l1 l2 : Nat) (ap ar : Option Addr) (cp cr : Nat) (hu : u = be (cur.take cs)) (e1 : l1 = L) (e2 : l2 + (cs + ls + L) = N) (h1 : L = 0 ∨ ap = some ⟨b, off + (cs + ls), none⟩) (h2 : N = cs + ls + L ∨ ar = some ⟨b, off + (cs + ls + L), none⟩) :
    NextPost cs ls m p n bs w (.returned (.tuple #[.int .u64 (u : Int), .slice ap l1 cp, .slice ar l2 cr, .bool true])) w' := by
  subst hL hcur hu e1
  have hlen := hx.len
  rw [List.length_drop] at hlen
  obtain rfl : l2 = n - (m + (cs + ls) + pay cs ls m bs) := by omega
  refine ⟨hb, .inr ⟨hs, ap, cp, ar, cr, rfl, ?_, ?_⟩⟩
  · rcases h1 with h | rfl
    · rw [h]
      exact Rd.nothing _ _ _
    · have h := hx.sub (cs + ls) (pay cs ls m bs) (by omega)
      rwa [List.drop_drop] at h
  · rcases h2 with h | rfl
    · rw [show n - (m + (cs + ls) + pay cs ls m bs) = 0 by omega, List.drop_eq_nil_of_le (by omega)]
      exact Rd.nothing _ _ _
    · have h := hx.sub (cs + ls + pay cs ls m bs) (n - (m + (cs + ls) + pay cs ls m bs)) (by omega)
      rw [List.drop_drop, show m + (cs + ls + pay cs ls m bs) = m + (cs + ls) + pay cs ls m bs by omega] at h
      rwa [List.take_of_length_le (by rw [List.length_drop]; omega)] at h

end

/-- A slice's length. -/
def slLen (v : Value) : Nat := match v with
  | .slice _ n _ => n
  | _ => 0

theorem next_cases (cs ls N L : Nat) : N < cs + ls ∨ (¬ 0 < ls ∧ cs + ls ≤ N) ∨ (0 < ls ∧ cs + ls ≤ N ∧ N < cs + ls + L) ∨ (0 < ls ∧ cs + ls + L ≤ N) := by omega

set_option maxHeartbeats 4000000 in
set_option maxRecDepth 100000 in
theorem next32 (cs ls m : Nat) (p j : Bool) (a : Option Addr) (n : Nat) (bs : List Int) (w : World) (h : Rd w .u8 a n bs) (hc : cs ≤ 8) (hl : ls ≤ 8) (h1 : 1 ≤ cs + ls) (hn : n ≤ 1073741824) (hp : p = true → Lead bs m) (hq : p = false → m = 0) :
    Calls Try.prog 32 #[.agg #[.int .i64 cs, .int .i64 ls, .bool p, .bool j], .slice a n n] w (NextPost cs ls m p n bs w) := by
  have hlen := h.len
  have hbyt := h.byt
  cases p with
  | false =>
    obtain rfl := hq rfl
    have hxr : Rd (w.alloc (.cells #[.int .i64 cs, .int .i64 ls, .bool false, .bool j] 51)) .u8 a n bs := h.below ((Below.refl _ _).alloc (Nat.le_refl _) _)
    have x0 : (w.alloc (.cells #[.int .i64 cs, .int .i64 ls, .bool false, .bool j] 51)).cell? ⟨w.heap.size, 0, none⟩ = some (.int .i64 cs) := by simp
    have x1 : (w.alloc (.cells #[.int .i64 cs, .int .i64 ls, .bool false, .bool j] 51)).cell? ⟨w.heap.size, 1, none⟩ = some (.int .i64 ls) := by simp
    have hblr : Below w.heap.size w (w.alloc (.cells #[.int .i64 cs, .int .i64 ls, .bool false, .bool j] 51)) := (Below.refl _ _).alloc (Nat.le_refl _) _
    have hLb : be ((bs.drop cs).take ls) < 18446744073709551616 := be_lt64 (hxr.byt.sub cs ls) (by rw [List.length_take]; omega)
    obtain ⟨L, hL⟩ : ∃ L, L = be ((bs.drop cs).take ls) := ⟨_, rfl⟩
    rw [← hL] at hLb
    have HLc := hid hL
    have HL : Hid (L = be ((bs.drop (0 + cs)).take ls)) := hid (by rw [Nat.zero_add]; exact hL)
    have hcase := next_cases cs ls n L
    clear hp hq hbyt h hL
    go_enter Try.func32, Try.ntmps32
    go_wp2_with (first | (go_at_call 37; refine (header37 cs ls false j _ hc hl).mono ?_; rintro e w1 ⟨rfl, b1⟩; have hx := hxr.below b1; have y0 := (b1.cell (World.block_lt_of_cell? _ _ x0)).trans x0; have y1 := (b1.cell (World.block_lt_of_cell? _ _ x1)).trans x1; have hbl := hblr.trans (b1.mono hblr.size); clear b1 hxr x0 x1 hblr; rcases hcase with c1 | ⟨c1, c2⟩ | ⟨c1, c2, c3⟩ | ⟨c1, c2⟩; rotate_left; (obtain ⟨b, off, rfl, _, _⟩ := hx.at (j := 0) (by omega)); rotate_left; (obtain ⟨b, off, rfl, _, _⟩ := hx.at (j := 0) (by omega)); rotate_left; (obtain ⟨b, off, rfl, _, _⟩ := hx.at (j := 0) (by omega)); rotate_left) | (go_at_call 38; refine (unsigned38 (some ⟨b, off + cs, none⟩) ls _ _ _ (hx.sub cs ls (by omega)) hl).mono ?_; rintro e w2 ⟨rfl, rfl⟩; rw [← HLc.out]) | (go_quiet ((go_at_call 38; exact Calls.quiet_of_same (unsigned38 (some ⟨b, off, none⟩) cs _ _ _ ((hx.front cs (by omega)).drewN _) hc)))))
    all_goals (try simp only [Exit.inBlock, Exit.then])
    all_goals (refine bodyPost_ret (results_tmp4 rfl _ _ _) rfl ?_)
    · exact NextPost.no hbl (.inr (.inl (by omega)))
    · have Hpay : n - (cs + ls) = pay cs ls 0 bs := by
        unfold pay
        rw [if_pos (by omega)]
        omega
      have Hst : ¬ Stop cs ls 0 false bs := by
        rintro (h | h | h)
        · cases h.1
        · omega
        · omega
      exact NextPost.yes (below_drewN hbl _) (hx.drewN _) rfl (by omega) Hst _ Hpay (by omega) _ _ _ _ _ _ _ rfl (by omega) (by omega) (by first | exact .inr rfl | exact .inl (by omega)) (by first | exact .inr rfl | exact .inl (by omega))
    · have Hpay : n - (cs + ls) = pay cs ls 0 bs := by
        unfold pay
        rw [if_pos (by omega)]
        omega
      have Hst : ¬ Stop cs ls 0 false bs := by
        rintro (h | h | h)
        · cases h.1
        · omega
        · omega
      exact NextPost.yes (below_drewN hbl _) (hx.drewN _) rfl (by omega) Hst _ Hpay (by omega) _ _ _ _ _ _ _ rfl (by omega) (by omega) (by first | exact .inr rfl | exact .inl (by omega)) (by first | exact .inr rfl | exact .inl (by omega))
    · exact NextPost.no hbl (.inr (.inr ⟨c1, by rw [← HL.out]; omega⟩))
    · have Hpay : L = pay cs ls 0 bs := by
        unfold pay
        rw [if_neg (by omega)]
        exact HL.out
      have Hst : ¬ Stop cs ls 0 false bs := by
        rintro (h | h | h)
        · cases h.1
        · omega
        · obtain ⟨_, h⟩ := h
          rw [← HL.out] at h
          omega
      exact NextPost.yes (below_drewN hbl _) (hx.drewN _) rfl (by omega) Hst _ Hpay (by omega) _ _ _ _ _ _ _ rfl (by omega) (by omega) (by first | exact .inr rfl | exact .inl (by omega)) (by first | exact .inr rfl | exact .inl (by omega))
    · have Hpay : L = pay cs ls 0 bs := by
        unfold pay
        rw [if_neg (by omega)]
        exact HL.out
      have Hst : ¬ Stop cs ls 0 false bs := by
        rintro (h | h | h)
        · cases h.1
        · omega
        · obtain ⟨_, h⟩ := h
          rw [← HL.out] at h
          omega
      exact NextPost.yes (below_drewN hbl _) (hx.drewN _) rfl (by omega) Hst _ Hpay (by omega) _ _ _ _ _ _ _ rfl (by omega) (by omega) (by first | exact .inr rfl | exact .inl (by omega)) (by first | exact .inr rfl | exact .inl (by omega))
    · have Hpay : L = pay cs ls 0 bs := by
        unfold pay
        rw [if_neg (by omega)]
        exact HL.out
      have Hst : ¬ Stop cs ls 0 false bs := by
        rintro (h | h | h)
        · cases h.1
        · omega
        · obtain ⟨_, h⟩ := h
          rw [← HL.out] at h
          omega
      exact NextPost.yes (below_drewN hbl _) (hx.drewN _) rfl (by omega) Hst _ Hpay (by omega) _ _ _ _ _ _ _ rfl (by omega) (by omega) (by first | exact .inr rfl | exact .inl (by omega)) (by first | exact .inr rfl | exact .inl (by omega))
  | true =>
    have hlead := hp rfl
    clear hp hq
    go_enter Try.func32, Try.ntmps32
    go_wp2_with fail
    go_loopw [1] (fun v ws => ws = w.alloc (.cells #[.int .i64 cs, .int .i64 ls, .bool true, .bool j] 51) ∧ ∃ k a', k ≤ n ∧ v = .slice a' (n - k) (n - k) ∧ Rd ws .u8 a' (n - k) (bs.drop k) ∧ ∀ j, j < k → bs.getD j 0 = 0) (fun v _ => slLen v)
    case atStart => exact ⟨rfl, 0, a, Nat.zero_le _, rfl, h.below ((Below.refl _ _).alloc (Nat.le_refl _) _), fun j hj => by omega⟩
    case round =>
      obtain ⟨rfl, k, a', hk, rfl, hxr, hz⟩ := hrel
      have Hz := hid hz
      clear hz
      obtain ⟨N, hNe⟩ : ∃ N, N = n - k := ⟨_, rfl⟩
      obtain ⟨cur, hcur⟩ : ∃ cur, cur = bs.drop k := ⟨_, rfl⟩
      rw [← hNe, ← hcur] at hxr
      rw [← hNe]
      have hNa : N + k ≤ n := by omega
      have hNb : n ≤ N + k := by omega
      have Hcur := hid hcur
      have Hget : Hid (∀ i, cur.getD i 0 = bs.getD (k + i) 0) := hid (fun i => by rw [hcur, getD_drop])
      clear hNe hcur
      by_cases hN0 : N = 0
      · have hm : k = m := Lead.uniq ⟨by omega, Hz.out, fun h => by omega⟩ hlead
        subst hm
        have x0 : (w.alloc (.cells #[.int .i64 cs, .int .i64 ls, .bool true, .bool j] 51)).cell? ⟨w.heap.size, 0, none⟩ = some (.int .i64 cs) := by simp
        have hblr : Below w.heap.size w (w.alloc (.cells #[.int .i64 cs, .int .i64 ls, .bool true, .bool j] 51)) := (Below.refl _ _).alloc (Nat.le_refl _) _
        subst hN0
        go_wp2_with (go_at_call 37; refine (header37 cs ls true j _ hc hl).mono ?_; rintro e w1 ⟨rfl, b1⟩)
        (try simp only [Exit.inBlock, Exit.then])
        refine bodyPost_ret (results_tmp4 rfl _ _ _) rfl ?_
        exact NextPost.no (hblr.trans (b1.mono hblr.size)) (.inr (.inl (by omega)))
      · obtain ⟨b, off, rfl, hc0, hwf⟩ := hxr.at (j := 0) (by omega)
        have hx0 := Hget.out 0
        rw [Nat.add_zero] at hx0
        obtain ⟨x, hx⟩ : ∃ x, x = cur.getD 0 0 := ⟨_, rfl⟩
        rw [← hx] at hc0 hx0
        simp only [Nat.add_zero] at hc0
        have Hx0 := hid hx0
        have hNp : 0 < N := by omega
        clear hx hx0 hwf
        by_cases hxz : x = 0
        · subst hxz
          go_wp2
          go_roundw
          case rel =>
            refine ⟨trivial, k + 1, _, by omega, by rw [show n - (k + 1) = N - 1 by omega], ?_, fun i hi => ?_⟩
            · rw [show n - (k + 1) = N - 1 by omega]
              have h2 := hxr.sub 1 (N - 1) (by omega)
              rw [List.take_of_length_le (by rw [List.length_drop, hxr.len]; omega), Hcur.out, List.drop_drop] at h2
              by_cases hN1 : N = 1
              · rw [List.drop_eq_nil_of_le (by omega), show N - 1 = 0 by omega]
                exact Rd.nothing _ _ _
              · rw [if_neg hN1]
                exact h2
            · by_cases e : i = k
              · rw [e]; exact Hx0.out.symm
              · exact Hz.out i (by omega)
          case measure => simp [slLen]; omega
        · have hm : k = m := Lead.uniq ⟨by omega, Hz.out, fun _ => by rw [← Hx0.out]; exact hxz⟩ hlead
          subst hm
          have Hxz := hid hxz
          by_cases hx5 : x = 255
          · subst hx5
            have hblr : Below w.heap.size w (w.alloc (.cells #[.int .i64 cs, .int .i64 ls, .bool true, .bool j] 51)) := (Below.refl _ _).alloc (Nat.le_refl _) _
            go_wp2
            (try simp only [Exit.inBlock, Exit.then])
            refine bodyPost_ret (results_tmp4 rfl _ _ _) rfl ?_
            exact NextPost.no hblr (.inl ⟨rfl, by omega, Hx0.out.symm⟩)
          · have hend : Hid (¬ (k < bs.length ∧ bs.getD k 0 = 255)) := hid (fun h => hx5 (by rw [Hx0.out]; exact h.2))
            have x0 : (w.alloc (.cells #[.int .i64 cs, .int .i64 ls, .bool true, .bool j] 51)).cell? ⟨w.heap.size, 0, none⟩ = some (.int .i64 cs) := by simp
            have x1 : (w.alloc (.cells #[.int .i64 cs, .int .i64 ls, .bool true, .bool j] 51)).cell? ⟨w.heap.size, 1, none⟩ = some (.int .i64 ls) := by simp
            have hblr : Below w.heap.size w (w.alloc (.cells #[.int .i64 cs, .int .i64 ls, .bool true, .bool j] 51)) := (Below.refl _ _).alloc (Nat.le_refl _) _
            have hLb : be ((cur.drop cs).take ls) < 18446744073709551616 := be_lt64 (hxr.byt.sub cs ls) (by rw [List.length_take]; omega)
            obtain ⟨L, hL⟩ : ∃ L, L = be ((cur.drop cs).take ls) := ⟨_, rfl⟩
            rw [← hL] at hLb
            have HLc := hid hL
            have HL : Hid (L = be ((bs.drop (k + cs)).take ls)) := hid (by rw [hL, Hcur.out, List.drop_drop])
            have hcase := next_cases cs ls N L
            clear hbyt hL hlead h
            go_wp2_with (first | (go_at_call 37; refine (header37 cs ls true j _ hc hl).mono ?_; rintro e w1 ⟨rfl, b1⟩; have hx := hxr.below b1; have y0 := (b1.cell (World.block_lt_of_cell? _ _ x0)).trans x0; have y1 := (b1.cell (World.block_lt_of_cell? _ _ x1)).trans x1; have hbl := hblr.trans (b1.mono hblr.size); clear b1 hxr x0 x1 hblr; rcases hcase with c1 | ⟨c1, c2⟩ | ⟨c1, c2, c3⟩ | ⟨c1, c2⟩) | (go_at_call 38; refine (unsigned38 (some ⟨b, off + cs, none⟩) ls _ _ _ (hx.sub cs ls (by omega)) hl).mono ?_; rintro e w2 ⟨rfl, rfl⟩; rw [← HLc.out]) | (go_quiet ((go_at_call 38; exact Calls.quiet_of_same (unsigned38 (some ⟨b, off, none⟩) cs _ _ _ ((hx.front cs (by omega)).drewN _) hc)))))
            all_goals (try simp only [Exit.inBlock, Exit.then])
            all_goals (refine bodyPost_ret (results_tmp4 rfl _ _ _) rfl ?_)
            · exact NextPost.no hbl (.inr (.inl (by omega)))
            · have Hpay : N - (cs + ls) = pay cs ls k bs := by
                unfold pay
                rw [if_pos (by omega)]
                omega
              have Hst : ¬ Stop cs ls k true bs := by
                rintro (h | h | h)
                · exact hend.out h.2
                · omega
                · omega
              exact NextPost.yes (below_drewN hbl _) (hx.drewN _) Hcur.out (by omega) Hst _ Hpay (by omega) _ _ _ _ _ _ _ rfl (by omega) (by omega) (by first | exact .inr rfl | exact .inl (by omega)) (by first | exact .inr rfl | exact .inl (by omega))
            · have Hpay : N - (cs + ls) = pay cs ls k bs := by
                unfold pay
                rw [if_pos (by omega)]
                omega
              have Hst : ¬ Stop cs ls k true bs := by
                rintro (h | h | h)
                · exact hend.out h.2
                · omega
                · omega
              exact NextPost.yes (below_drewN hbl _) (hx.drewN _) Hcur.out (by omega) Hst _ Hpay (by omega) _ _ _ _ _ _ _ rfl (by omega) (by omega) (by first | exact .inr rfl | exact .inl (by omega)) (by first | exact .inr rfl | exact .inl (by omega))
            · exact NextPost.no hbl (.inr (.inr ⟨c1, by rw [← HL.out]; omega⟩))
            · have Hpay : L = pay cs ls k bs := by
                unfold pay
                rw [if_neg (by omega)]
                exact HL.out
              have Hst : ¬ Stop cs ls k true bs := by
                rintro (h | h | h)
                · exact hend.out h.2
                · omega
                · obtain ⟨_, h⟩ := h
                  rw [← HL.out] at h
                  omega
              exact NextPost.yes (below_drewN hbl _) (hx.drewN _) Hcur.out (by omega) Hst _ Hpay (by omega) _ _ _ _ _ _ _ rfl (by omega) (by omega) (by first | exact .inr rfl | exact .inl (by omega)) (by first | exact .inr rfl | exact .inl (by omega))
            · have Hpay : L = pay cs ls k bs := by
                unfold pay
                rw [if_neg (by omega)]
                exact HL.out
              have Hst : ¬ Stop cs ls k true bs := by
                rintro (h | h | h)
                · exact hend.out h.2
                · omega
                · obtain ⟨_, h⟩ := h
                  rw [← HL.out] at h
                  omega
              exact NextPost.yes (below_drewN hbl _) (hx.drewN _) Hcur.out (by omega) Hst _ Hpay (by omega) _ _ _ _ _ _ _ rfl (by omega) (by omega) (by first | exact .inr rfl | exact .inl (by omega)) (by first | exact .inr rfl | exact .inl (by omega))
            · have Hpay : L = pay cs ls k bs := by
                unfold pay
                rw [if_neg (by omega)]
                exact HL.out
              have Hst : ¬ Stop cs ls k true bs := by
                rintro (h | h | h)
                · exact hend.out h.2
                · omega
                · obtain ⟨_, h⟩ := h
                  rw [← HL.out] at h
                  omega
              exact NextPost.yes (below_drewN hbl _) (hx.drewN _) Hcur.out (by omega) Hst _ Hpay (by omega) _ _ _ _ _ _ _ rfl (by omega) (by omega) (by first | exact .inr rfl | exact .inl (by omega)) (by first | exact .inr rfl | exact .inl (by omega))

set_option maxHeartbeats 1000000 in
set_option maxRecDepth 100000 in
theorem znext17 (cs ls m : Nat) (p j : Bool) (a : Option Addr) (n : Nat) (bs : List Int) (w : World) (h : Rd w .u8 a n bs) (hc : cs ≤ 8) (hl : ls ≤ 8) (h1 : 1 ≤ cs + ls) (hn : n ≤ 1073741824) (hp : p = true → Lead bs m) (hq : p = false → m = 0) :
    Calls Try.prog 17 #[.int .i64 cs, .int .i64 ls, .bool p, .bool j, .slice a n n] w (NextPost cs ls m p n bs w) := by
  go_enter Try.func17, Try.ntmps17
  go_wp2_with (go_at_call 32; refine (next32 cs ls m p j a n bs _ h hc hl h1 hn hp hq).mono ?_; rintro e w1 ⟨hb, ⟨hs, rfl⟩ | ⟨hs, ap, cp, ar, cr, rfl, hr1, hr2⟩⟩; all_goals (have Hs := hid hs; clear hs))
  all_goals (try simp only [Exit.inBlock, Exit.then])
  all_goals (refine bodyPost_ret (results_tmp4 rfl _ _ _) rfl ?_)
  · exact ⟨hb, .inl ⟨Hs.out, rfl⟩⟩
  · exact ⟨hb, .inr ⟨Hs.out, ap, cp, ar, cr, rfl, hr1, hr2⟩⟩

end Go.Proofs.Qxb6601535a
