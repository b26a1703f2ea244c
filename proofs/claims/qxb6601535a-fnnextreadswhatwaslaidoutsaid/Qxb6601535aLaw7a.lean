/-
  FnNextReadsWhatWasLaidOut behind its first tests, walked.
-/
import Derived.Test.Qxb6601535aNext
import Derived.Test.Qxb6601535aLay
import Derived.Deep.Cut
import Derived.Deep.CutRange
import Derived.Deep.CutBlock
import Derived.WalkArith
namespace Go.Proofs.Qxb6601535a
open Go.RowKit Go.Proofs.Qxb6601535a.Be

theorem wf_byte {x : Int} (h0 : 0 ≤ x) (h1 : x < 256) : (Lit.int .u8 x).wf = true := Go.WalkArith.wf_u8 ⟨h0, by omega⟩

theorem lay_puts (pd cs ls cd n : Nat) (ps rs : List Int) (i : Nat) : putF (putF (fun _ => 0) pd cs cd 0) (pd + cs) ls n 0 i = if i < pd + (cs + ls) + 0 then layF pd cs ls cd n ps rs i else 0 := by
  unfold putF layF
  by_cases h1 : i < pd
  · rw [if_neg (by omega), if_neg (by omega), if_pos (by omega), if_pos h1]
  · by_cases h2 : i < pd + cs
    · rw [if_neg (by omega), if_pos (by omega), if_pos (by omega), if_neg h1, if_pos h2]
      rfl
    · by_cases h3 : i < pd + (cs + ls)
      · rw [if_pos (by omega), if_pos (by omega), if_neg h1, if_neg h2, if_pos h3, show pd + cs + ls - 1 - i = pd + (cs + ls) - 1 - i by omega]
        rfl
      · rw [if_neg (by omega), if_neg (by omega), if_neg (by omega)]

set_option maxHeartbeats 4000000 in
set_option maxRecDepth 100000 in
theorem law7a (cs ls pd cd : Nat) (p j : Bool) (a6 : Option Addr) (n c6 : Nat) (ps : List Int) (a7 : Option Addr) (m c7 : Nat) (rs : List Int) (w : World) (h6 : Rd w .u8 a6 n ps) (h7 : Rd w .u8 a7 m rs)
    (t1 : n ≤ 1048576) (t2 : m ≤ 1048576) (t3 : n + m ≤ 1048576) (t4 : cs ≤ 8) (t5 : ls ≤ 8) (t6 : 1 ≤ cs + ls) (t7 : pd ≤ 65536) (t8 : cd < 18446744073709551616) (t9 : p = false → pd = 0)
    (hcall : Calls Try.prog 21 #[.int .i64 cs, .int .i64 ls, .bool p, .bool j, .int .i64 pd, .int .u64 cd, .slice a6 n c6, .slice a7 m c7] w fun e w' => IsBool e ∧ w' = w) :
    Calls Try.prog 7 #[.int .i64 cs, .int .i64 ls, .bool p, .bool j, .int .i64 pd, .int .u64 cd, .slice a6 n c6, .slice a7 m c7] w fun e w' => e = .returned (.bool true) ∧ Below w.heap.size w w' := by
  have t6' : (((cs : Int) + (ls : Int)) == 0) = false := by simp; omega
  have T9 := hid t9
  clear t9
  go_enter Try.func7, Try.ntmps7
  go_upto_region 7 with (go_at_call 21; refine hcall.mono ?_; rintro e wq ⟨⟨b, rfl⟩, hwq⟩; subst hwq; cases b)
  · go_ret
    exact ⟨rfl, Below.refl _ _⟩
  clear hcall
  go_cut [84] from 71 to 84 (fun s wx => s = .bool false ∧ wx = wq)
  case first =>
    cases p with
    | true =>
      go_wp2
      go_meet
      case rel => exact ⟨by first | rfl | (simp; omega), rfl⟩
    | false =>
      obtain rfl := T9.out rfl
      go_wp2
      go_meet
      case rel => exact ⟨by first | rfl | (simp; omega), rfl⟩
  case rest =>
    obtain ⟨rfl, rfl⟩ := hcut
    go_upto_region 9 with fail
    obtain ⟨B9, hB9⟩ : ∃ b : Bool, b = decide (cs < 8 ∧ cd / 2 ^ (8 * cs) ≠ 0) := ⟨_, rfl⟩
    go_cut [94] from 85 to 94 (fun s wx => s = .bool B9 ∧ wx = wc)
    case first =>
      by_cases q1 : cs < 8
      · go_wp2
        go_meet
        case rel =>
          refine ⟨congrArg Value.bool ?_, rfl⟩
          rw [hB9]
          simp only [q1, true_and]
          exact shr_test cd cs
      · go_wp2
        go_meet
        case rel =>
          refine ⟨congrArg Value.bool ?_, rfl⟩
          rw [hB9]
          simp [q1]
    case rest =>
      obtain ⟨rfl, rfl⟩ := hcut
      have HB9 := hid hB9
      clear hB9
      cases B9 with
      | true =>
        go_wp2
        go_ret
        exact ⟨rfl, Below.refl _ _⟩
      | false =>
        have F1 : cd < 256 ^ cs := fits t4 t8 (by have h := HB9.out; simpa using h)
        clear HB9
        go_upto_region 11 with fail
        obtain ⟨B11, hB11⟩ : ∃ b : Bool, b = decide (0 < ls ∧ ls < 8 ∧ n / 2 ^ (8 * ls) ≠ 0) := ⟨_, rfl⟩
        go_cut [110] from 95 to 110 (fun s wx => s = .bool B11 ∧ wx = wc)
        case first =>
          by_cases q1 : 0 < ls
          · by_cases q2 : ls < 8
            · go_wp2
              go_meet
              case rel =>
                refine ⟨congrArg Value.bool ?_, rfl⟩
                rw [hB11]
                simp only [q1, q2, true_and]
                exact shr_test n ls
            · go_wp2
              go_meet
              case rel =>
                refine ⟨congrArg Value.bool ?_, rfl⟩
                rw [hB11]
                simp [q2]
          · go_wp2
            go_meet
            case rel =>
              refine ⟨congrArg Value.bool ?_, rfl⟩
              rw [hB11]
              simp [q1]
        case rest =>
          obtain ⟨rfl, rfl⟩ := hcut
          have HB11 := hid hB11
          clear hB11
          cases B11 with
          | true =>
            go_wp2
            go_ret
            exact ⟨rfl, Below.refl _ _⟩
          | false =>
            have F2 : Hid (0 < ls → n < 256 ^ ls) := hid (fun h0 => fits t5 (by omega) (by
              have h := HB11.out
              intro h2
              exact absurd h (by simp only [h0, true_and]; simp [h2])))
            clear HB11
            go_upto_region 13 with fail
            obtain ⟨B13, hB13⟩ : ∃ b : Bool, b = decide (ls = 0 ∧ m ≠ 0) := ⟨_, rfl⟩
            go_cut [117] from 111 to 117 (fun s wx => s = .bool B13 ∧ wx = wc)
            case first =>
              by_cases q1 : ls = 0
              · go_wp2
                go_meet
                case rel =>
                  refine ⟨congrArg Value.bool ?_, rfl⟩
                  rw [hB13]
                  by_cases q2 : m = 0 <;> simp [q1, q2]
              · go_wp2
                go_meet
                case rel =>
                  refine ⟨congrArg Value.bool ?_, rfl⟩
                  rw [hB13]
                  simp [q1]
            case rest =>
              obtain ⟨rfl, rfl⟩ := hcut
              have HB13 := hid hB13
              clear hB13
              cases B13 with
              | true =>
                go_wp2
                go_ret
                exact ⟨rfl, Below.refl _ _⟩
              | false =>
                have F3 : Hid (ls = 0 → m = 0) := hid (fun h0 => by
                  have h := HB13.out
                  simpa [h0] using h)
                clear HB13 t6'
                rename World => wb
                obtain ⟨i0, hi, hz0, hz1, hz2⟩ := info_parts Try.info5
                obtain ⟨N, hN1, hN2⟩ : ∃ N, N ≤ pd + (cs + ls) + n + m ∧ pd + (cs + ls) + n + m ≤ N := ⟨_, Nat.le_refl _, Nat.le_refl _⟩
                go_upto_region 16 with (go_at_call 16; refine (clone16 a6 n c6 ps _ h6 (by omega)).mono ?_; rintro e w1 ⟨b6, e6, rfl, r6, g1⟩; have r7 := h7.below g1)
                go_upto_region 17 with (go_at_call 16; refine (clone16 a7 m c7 rs _ r7 (by omega)).mono ?_; rintro e w2 ⟨b7, e7, rfl, s7, g2⟩; have s6 := r6.below g2; have gA := g1.trans (g2.mono g1.size); clear r6 r7 g1 g2)
                go_upto_region 19 with (at_make; refine wpList_make_row _ rfl _ _ 27 rfl i0 (.int .u8 0) Try.underlying27 hi hz0 hz1 rfl _ _ _ _ N rfl rfl (by omega) (by omega) (by rw [hz2]; omega) (by unfold maxLen; omega) ?_; intro w3 hr3 hg3 hs3; have gB : Below w2.heap.size w2 w3 := (Below.refl _ _).grown hg3 (Nat.le_refl _) (fun k hk => by cases hk); clear hg3 hs3; rw [rowF_zero] at hr3)
                have hNp : ¬ N = pd := by omega
                go_upto_region 20 with (go_at_call 22; refine (put22 w2.heap.size pd N cs cd _ _ (fun _ => 0) _ hr3 (.inr rfl) (by omega) (by omega) t8).mono ?_; rintro e w4 ⟨rfl, hr4, hg4⟩; have gC := gB.grown hg4 gB.size (fun k hk => by cases hk; exact Nat.le_refl _); clear gB hg4 hr3)
                go_cut [18] from 118 to 154 (fun s18 wx => s18 = .slice (some ⟨w2.heap.size, 0, none⟩) N N ∧ RowAt wx 5 w2.heap.size 0 N (rowF .u8 N (putF (putF (fun _ => 0) pd cs cd 0) (pd + cs) ls n 0)) ∧ Below w2.heap.size w2 wx)
                case first =>
                  go_wp2_with (go_at_call 22; rw [show pd + (cs + ls) - (pd + cs) = ls by omega]; refine (put22 w2.heap.size (pd + cs) N ls n _ _ _ _ hr4 (by first | exact .inr rfl | exact .inl (by omega) | (by_cases hh : N = pd + cs; (exact .inl (by omega)); (exact .inr (if_neg hh)))) (by omega) (by omega) (by omega)).mono ?_; rintro e w5 ⟨rfl, hr5, hg5⟩; have gD := gC.grown hg5 gC.size (fun k hk => by cases hk; exact Nat.le_refl _); clear gC hg5 hr4)
                  all_goals go_meet
                  all_goals exact ⟨by first | rfl | (simp; omega), hr5, gD⟩
                case rest =>
                  obtain ⟨rfl, hr5, gD⟩ := hcut
                  rename World => wd
                  have hR : RowAt wd 5 w2.heap.size 0 N (rowF .u8 N (fun i => if i < pd + (cs + ls) + 0 then layF pd cs ls cd n ps rs i else 0)) := by
                    rw [rowF_congr .u8 (fun i _ => lay_puts pd cs ls cd n ps rs i)] at hr5
                    exact hr5
                  clear hr5
                  go_wp2_with fail
                  go_loopw [19] (fun v ws => ∃ k : Nat, k ≤ n ∧ v = .int .i64 k ∧ RowAt ws 5 w2.heap.size 0 N (rowF .u8 N (fun i => if i < pd + (cs + ls) + k then layF pd cs ls cd n ps rs i else 0)) ∧ Below w2.heap.size w2 ws) (fun v _ => n - (intOf v).toNat)
                  case atStart => exact ⟨0, Nat.zero_le _, rfl, hR, gD⟩
                  case round =>
                    clear hR gD
                    obtain ⟨k, hk, rfl, hR, gD⟩ := hrel
                    by_cases hlt : k < n
                    · have hRd := s6.below gD
                      obtain ⟨b, off, rfl, hc, hwf⟩ := hRd.at hlt
                      have hlay : layF pd cs ls cd n ps rs (pd + (cs + ls) + k) = ps.getD k 0 := by
                        unfold layF
                        rw [if_neg (by omega), if_neg (by omega), if_neg (by omega), if_pos (by omega)]
                        congr 1
                        omega
                      obtain ⟨x, hx⟩ : ∃ x, x = ps.getD k 0 := ⟨_, rfl⟩
                      rw [← hx] at hc hlay
                      have Hlay := hid hlay
                      have hiN : pd + (cs + ls) + k < N := by omega
                      obtain ⟨z, hz⟩ : ∃ z, wr.cell? ⟨w2.heap.size, 0 + (pd + (cs + ls) + k), none⟩ = some z := ⟨_, hR.cell_some (rowF_at _ _ hiN)⟩
                      have hf := hR.frozen (pd + (cs + ls) + k)
                      simp only [Nat.zero_add] at hz
                      clear hx hwf hlay
                      go_wp2
                      go_roundw
                      case rel =>
                        refine ⟨k + 1, by omega, by go_num, ?_, gD.setCell (Nat.le_refl _) _⟩
                        have hst := hR.stored (pd + (cs + ls) + k) (.int .u8 x)
                        rw [Nat.zero_add, rowF_set .u8 (i := pd + (cs + ls) + k) _ (fun i => if i < pd + (cs + ls) + (k + 1) then layF pd cs ls cd n ps rs i else 0) x (by rw [if_pos (by omega)]; exact Hlay.out) (fun j _ hne => by
                          by_cases e : j < pd + (cs + ls) + k
                          · rw [if_pos e, if_pos (by omega)]
                          · rw [if_neg e, if_neg (by omega)])] at hst
                        exact hst
                      case measure => simp [intOf]; omega
                    · have hR2 : RowAt wr 5 w2.heap.size 0 N (rowF .u8 N (fun i => if i < pd + (cs + ls) + n + 0 then layF pd cs ls cd n ps rs i else 0)) := by
                        have h := hR
                        rw [rowF_congr .u8 (g := fun i => if i < pd + (cs + ls) + n + 0 then layF pd cs ls cd n ps rs i else 0) (fun i _ => by rw [show k = n by omega]; rfl)] at h
                        exact h
                      clear hR
                      go_wp2_with fail
                      go_loopw [20] (fun v ws => ∃ k : Nat, k ≤ m ∧ v = .int .i64 k ∧ RowAt ws 5 w2.heap.size 0 N (rowF .u8 N (fun i => if i < pd + (cs + ls) + n + k then layF pd cs ls cd n ps rs i else 0)) ∧ Below w2.heap.size w2 ws) (fun v _ => m - (intOf v).toNat)
                      case atStart => exact ⟨0, Nat.zero_le _, rfl, hR2, gD⟩
                      case round =>
                        clear hR2 gD hlt hk
                        obtain ⟨k2, hk, rfl, hR, gD⟩ := hrel
                        by_cases hlt : k2 < m
                        · have hRd := s7.below gD
                          obtain ⟨b, off, rfl, hc, hwf⟩ := hRd.at hlt
                          have hlay : layF pd cs ls cd n ps rs (pd + (cs + ls) + n + k2) = rs.getD k2 0 := by
                            unfold layF
                            rw [if_neg (by omega), if_neg (by omega), if_neg (by omega), if_neg (by omega)]
                            congr 1
                            omega
                          obtain ⟨x, hx⟩ : ∃ x, x = rs.getD k2 0 := ⟨_, rfl⟩
                          rw [← hx] at hc hlay
                          have Hlay := hid hlay
                          have hiN : pd + (cs + ls) + n + k2 < N := by omega
                          obtain ⟨z, hz⟩ : ∃ z, wr.cell? ⟨w2.heap.size, 0 + (pd + (cs + ls) + n + k2), none⟩ = some z := ⟨_, hR.cell_some (rowF_at _ _ hiN)⟩
                          have hf := hR.frozen (pd + (cs + ls) + n + k2)
                          simp only [Nat.zero_add] at hz
                          clear hx hwf hlay
                          go_wp2
                          go_roundw
                          case rel =>
                            refine ⟨k2 + 1, by omega, by go_num, ?_, gD.setCell (Nat.le_refl _) _⟩
                            have hst := hR.stored (pd + (cs + ls) + n + k2) (.int .u8 x)
                            rw [Nat.zero_add, rowF_set .u8 (i := pd + (cs + ls) + n + k2) _ (fun i => if i < pd + (cs + ls) + n + (k2 + 1) then layF pd cs ls cd n ps rs i else 0) x (by rw [if_pos (by omega)]; exact Hlay.out) (fun j _ hne => by
                              by_cases e : j < pd + (cs + ls) + n + k2
                              · rw [if_pos e, if_pos (by omega)]
                              · rw [if_neg e, if_neg (by omega)])] at hst
                            exact hst
                          case measure => simp [intOf]; omega
                        · have hbp := (s6.below gD).byt
                          have hbr := (s7.below gD).byt
                          have hR3 : RowAt wr 5 w2.heap.size 0 N ((lay pd cs ls cd n N ps rs).map (Value.int .u8)) := by
                            have h := hR
                            rw [rowF_congr .u8 (g := layF pd cs ls cd n ps rs) (fun i _ => by rw [if_pos (by omega)])] at h
                            unfold lay
                            rw [List.map_map]
                            exact h
                          have hL : Rd wr .u8 (some ⟨w2.heap.size, 0, none⟩) N (lay pd cs ls cd n N ps rs) := by
                            have h := Rd.of_row hR3 (fun x hx => by
                              unfold lay at hx
                              obtain ⟨i, _, rfl⟩ := List.mem_map.1 hx
                              have := layF_byte (pd := pd) (cs := cs) (ls := ls) (cd := cd) (n := n) hbp hbr i
                              exact wf_byte this.1 this.2)
                            rwa [lay_length] at h
                          have hxc := hR3.cell_some (j := pd) (u := .int .u8 (layF pd cs ls cd n ps rs pd)) (by
                            rw [List.getElem?_map, show (lay pd cs ls cd n N ps rs)[pd]? = some (layF pd cs ls cd n ps rs pd) by simp [lay, show pd < N by omega]]
                            rfl)
                          simp only [Nat.zero_add] at hxc
                          obtain ⟨x, hx⟩ : ∃ x, x = layF pd cs ls cd n ps rs pd := ⟨_, rfl⟩
                          rw [← hx] at hxc
                          have Hx := hid hx
                          have hpN : pd < N := by omega
                          clear hx hR hR3 hbp hbr
                          go_upto_region 29 with fail
                          obtain ⟨B29, hB29⟩ : ∃ b : Bool, b = decide (p = true ∧ (x = 0 ∨ x = 255)) := ⟨_, rfl⟩
                          go_cut [206] from 192 to 206 (fun s wx => s = .bool B29 ∧ wx = wr)
                          case first =>
                            cases p with
                            | false =>
                              go_wp2
                              go_meet
                              case rel =>
                                refine ⟨congrArg Value.bool ?_, rfl⟩
                                rw [hB29]
                                simp
                            | true =>
                              by_cases q1 : x = 0
                              · have q1' : (x == 0) = true := by simp [q1]
                                go_wp2
                                go_meet
                                case rel =>
                                  refine ⟨congrArg Value.bool ?_, rfl⟩
                                  rw [hB29]
                                  simp [q1]
                              · have q1' : (x == 0) = false := by simp [q1]
                                by_cases q2 : x = 255
                                · have q2' : (x == 255) = true := by simp [q2]
                                  go_wp2
                                  go_meet
                                  case rel =>
                                    refine ⟨congrArg Value.bool ?_, rfl⟩
                                    rw [hB29]
                                    simp [q2]
                                · have q2' : (x == 255) = false := by simp [q2]
                                  go_wp2
                                  go_meet
                                  case rel =>
                                    refine ⟨congrArg Value.bool ?_, rfl⟩
                                    rw [hB29]
                                    simp [q1, q2]
                          case rest =>
                            obtain ⟨rfl, rfl⟩ := hcut
                            rename World => wf
                            have hfin := gA.trans (gD.mono gA.size)
                            have HB29 := hid hB29
                            clear hB29
                            cases B29 with
                            | true =>
                              go_wp2
                              go_ret
                              exact ⟨rfl, hfin⟩
                            | false =>
                              have hno : ¬ (p = true ∧ (x = 0 ∨ x = 255)) := by have h := HB29.out; simpa using h
                              rw [Hx.out] at hno
                              have hNe : N = pd + (cs + ls) + n + m := by omega
                              obtain ⟨hst, hpay⟩ := lay_goes (p := p) (m := m) (ps := ps) (rs := rs) (cd := cd) hNe (fun h => hno ⟨h.1, .inr h.2⟩) t6 F2.out F3.out
                              have hcode := lay_code (pd := pd) (cs := cs) (ls := ls) (cd := cd) (n := n) (N := N) (ps := ps) (rs := rs) (by omega) F1
                              have hpl := lay_payload (pd := pd) (cs := cs) (ls := ls) (cd := cd) (n := n) (N := N) (ps := ps) (rs := rs) s6.len (by omega)
                              have hrest := lay_rest (pd := pd) (cs := cs) (ls := ls) (cd := cd) (n := n) (N := N) (ps := ps) (rs := rs) s7.len hNe
                              have hnx := znext17 cs ls pd p j (some ⟨w2.heap.size, 0, none⟩) N (lay pd cs ls cd n N ps rs) wf hL t4 t5 t6 (by omega) (fun hp => lay_lead hpN (fun h0 => hno ⟨hp, .inl h0⟩)) T9.out
                              unfold NextPost at hnx
                              rw [hpay, hcode, hpl, hrest, show N - (pd + (cs + ls) + n) = m by omega] at hnx
                              have y6 := s6.below gD
                              have y7 := s7.below gD
                              have Hst := hid hst
                              clear hst hpay hcode hpl hrest hNe hno HB29 Hx F1 F2 F3 hxc hL
                              go_upto_region 32 with (go_at_call 17; refine hnx.mono ?_; rintro e w7 ⟨hb7, ⟨hs, _⟩ | ⟨hs, ap, cp, ar, cr, rfl, x1, x2⟩⟩; (exact absurd hs Hst.out); have z6 := y6.below hb7; have z7 := y7.below hb7; have hfin7 := hfin.trans (hb7.mono hfin.size); clear hs hnx)
                              go_wp2_with (first | (go_at_call 20; with_reducible (refine (same20 ap n cp b6 e6 ps _ x1 z6).mono ?_); rintro e w8 ⟨rfl, q8, rfl⟩) | (go_at_call 20; refine (same20 ar m cr b7 e7 rs _ (x2.drewN _) (z7.drewN _)).mono ?_; rintro e w9 ⟨rfl, q9, rfl⟩))
                              go_ret
                              exact ⟨rfl, below_drewN hfin7 _⟩

end Go.Proofs.Qxb6601535a
