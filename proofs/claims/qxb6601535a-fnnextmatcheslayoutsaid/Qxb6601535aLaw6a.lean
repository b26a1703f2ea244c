/-
  FnNextMatchesLayout behind its first tests, walked.
-/
import Derived.Test.Qxb6601535aNext
import Derived.Deep.Cut
import Derived.Deep.CutRange
import Derived.Deep.CutBlock
namespace Go.Proofs.Qxb6601535a
open Go.RowKit Go.Proofs.Qxb6601535a.Be

set_option maxHeartbeats 1000000 in
set_option maxRecDepth 100000 in
theorem clone16n (a0 : Option Addr) (n c0 : Nat) (zs : List Int) (w : World) (h0 : Rd w .u8 a0 n zs) (hn : n ≤ 1048576) :
    Calls Try.prog 16 #[.slice a0 n c0] w fun e w' => ∃ a, e = .returned (.slice a n n) ∧ Rd w' .u8 a n zs ∧ Below w.heap.size w w' := by
  obtain ⟨i0, hi, hz0, hz1, hz2⟩ := info_parts Try.info5
  go_enter Try.func16, Try.ntmps16
  cases a0 with
  | none =>
    obtain rfl : n = 0 := by
      rcases Nat.eq_zero_or_pos n with h | h
      · exact h
      · obtain ⟨b, off, h1, _⟩ := h0.at h
        cases h1
    have e0 := fun w => Lib.run_eql_slice_nil (P := Try.prog) w 27 5 none 0 c0 0 0 Try.underlying27
    go_wp2
    go_ret
    exact ⟨_, rfl, h0, Below.refl _ _⟩
  | some ad =>
    have e0 := fun w => Lib.run_eql_slice_nil (P := Try.prog) w 27 5 (some ad) n c0 0 0 Try.underlying27
    go_wp2_with (at_make; refine wpList_make_row _ rfl _ _ 27 rfl i0 (.int .u8 0) Try.underlying27 hi hz0 hz1 rfl _ _ _ _ n rfl rfl rfl rfl (by rw [hz2]; omega) (by unfold maxLen; omega) ?_)
    intro w1 hrow hgrow hsz
    have hb1 : Below w.heap.size w w1 := (Below.refl _ _).grown hgrow (Nat.le_refl _) (fun k hk => by cases hk)
    clear hsz hgrow
    rw [rowF_zero] at hrow
    go_wp2_with fail
    go_loopw [4] (fun v wr => ∃ k : Nat, k ≤ n ∧ v = .int .i64 k ∧ RowAt wr 5 w.heap.size 0 n (rowF .u8 n (fun i => if i < k then zs.getD i 0 else 0)) ∧ Below w.heap.size w wr) (fun v _ => n - (intOf v).toNat)
    case atStart => exact ⟨0, Nat.zero_le _, rfl, hrow, hb1⟩
    case round =>
      clear hrow hb1
      obtain ⟨k, hk, rfl, hr, hbl⟩ := hrel
      by_cases hlt : k < n
      · obtain ⟨b, off, had, hc, hwf⟩ := h0.at hlt
        cases had
        have hc' := (hbl.cell (World.block_lt_of_cell? _ _ hc)).trans hc
        have hfr := hr.frozen k
        obtain ⟨z0, hcc⟩ : ∃ c0, wr.cell? ⟨w.heap.size, 0 + k, none⟩ = some c0 := ⟨_, hr.cell_some (rowF_at _ _ hlt)⟩
        simp only [Nat.zero_add] at hcc
        obtain ⟨z, hz⟩ : ∃ z, z = zs.getD k 0 := ⟨_, rfl⟩
        rw [← hz] at hc'
        have Hz := hid hz
        clear hz hc hwf
        go_wp2
        go_roundw
        case rel =>
          refine ⟨k + 1, by omega, by go_num, ?_, hbl.setCell (Nat.le_refl _) _⟩
          have hst := hr.stored k (.int .u8 z)
          rw [Nat.zero_add, rowF_set .u8 _ (fun i => if i < k + 1 then zs.getD i 0 else 0) z (by rw [if_pos (by omega)]; exact Hz.out.symm) (fun j _ hne => by
            by_cases e : j < k
            · rw [if_pos e, if_pos (by omega)]
            · rw [if_neg e, if_neg (by omega)])] at hst
          exact hst
        case measure => simp [intOf]; omega
      · have hr' : RowAt wr 5 w.heap.size 0 n (zs.map (Value.int .u8)) := by
          have h := hr
          rw [rowF_congr .u8 (g := fun i => zs.getD i 0) (fun i hi => by rw [if_pos (by omega)])] at h
          rw [rowF_of_list, h0.len]
          exact h
        clear hr
        go_wp2
        go_ret
        refine ⟨_, rfl, ?_, hbl⟩
        have h := Rd.of_row hr' (fun x hx => by
          obtain ⟨j, hj⟩ := List.mem_iff_getElem?.1 hx
          obtain ⟨_, _, _, _, h⟩ := h0.cells j x hj
          exact h)
        rw [h0.len] at h
        exact h


theorem lead_choice (p : Bool) (bs : List Int) : ∃ m, m ≤ bs.length ∧ (p = true → Lead bs m) ∧ (p = false → m = 0) := by
  cases p with
  | true =>
    obtain ⟨m, hm⟩ := lead_exists bs
    exact ⟨m, hm.le, (fun _ => hm), fun h => by cases h⟩
  | false => exact ⟨0, Nat.zero_le _, (fun h => by cases h), fun _ => rfl⟩

theorem Rd.subIf {w : World} {k : IntKind} {b off n : Nat} {zs : List Int} (h : Rd w k (some ⟨b, off, none⟩) n zs) (i l : Nat) (hl : i + l ≤ n) : Rd w k (if n = i then some ⟨b, off, none⟩ else some ⟨b, off + i, none⟩) l ((zs.drop i).take l) := by
  by_cases e : n = i
  · obtain rfl : l = 0 := by omega
    rw [List.take_zero]
    exact Rd.nothing _ _ _
  · rw [if_neg e]
    exact h.sub i l hl

theorem znext17y (cs ls m : Nat) (p j : Bool) (a : Option Addr) (n : Nat) (bs : List Int) (w : World) (h : Rd w .u8 a n bs) (hc : cs ≤ 8) (hl : ls ≤ 8) (h1 : 1 ≤ cs + ls) (hn : n ≤ 1073741824) (hp : p = true → Lead bs m) (hq : p = false → m = 0) :
    Calls Try.prog 17 #[.int .i64 cs, .int .i64 ls, .bool p, .bool j, .slice a n n] w fun e w' => Below w.heap.size w w' ∧ ((Stop cs ls m p bs ∧ e = .returned (.tuple #[.int .u64 0, .slice none 0 0, .slice none 0 0, .bool false])) ∨
      (¬ Stop cs ls m p bs ∧ ∃ C L R ap cp ar cr, Hid (C = be ((bs.drop m).take cs)) ∧ Hid (L = pay cs ls m bs) ∧ Hid (R = n - (m + (cs + ls) + L)) ∧ e = .returned (.tuple #[.int .u64 (C : Int), .slice ap L cp, .slice ar R cr, .bool true]) ∧
        Rd w' .u8 ap L ((bs.drop (m + (cs + ls))).take L) ∧ Rd w' .u8 ar R (bs.drop (m + (cs + ls) + L)))) := by
  refine (znext17 cs ls m p j a n bs w h hc hl h1 hn hp hq).mono ?_
  rintro e w' ⟨hb, hs | ⟨hs, ap, cp, ar, cr, he, x1, x2⟩⟩
  · exact ⟨hb, .inl hs⟩
  · exact ⟨hb, .inr ⟨hs, _, _, _, ap, cp, ar, cr, hid rfl, hid rfl, hid rfl, he, x1, x2⟩⟩

set_option maxHeartbeats 4000000 in
set_option maxRecDepth 100000 in
theorem law6a (cs ls : Nat) (p j : Bool) (a : Option Addr) (n c : Nat) (bs : List Int) (w : World) (h : Rd w .u8 a n bs) (t1 : n ≤ 1048576) (t4 : cs ≤ 8) (t5 : ls ≤ 8) (t6 : 1 ≤ cs + ls)
    (hcall : Calls Try.prog 15 #[.int .i64 cs, .int .i64 ls, .bool p, .bool j, .slice a n c] w fun e w' => IsBool e ∧ w' = w) :
    Calls Try.prog 6 #[.int .i64 cs, .int .i64 ls, .bool p, .bool j, .slice a n c] w fun e w' => e = .returned (.bool true) ∧ Below w.heap.size w w' := by
  have t6' : (((cs : Int) + (ls : Int)) == 0) = false := by simp; omega
  have hlen := h.len
  obtain ⟨m, hmle, hp, hq⟩ := lead_choice p bs
  have hmn : m ≤ n := by omega
  have Hp := hid hp
  have Hq := hid hq
  clear hp hq hmle
  go_enter Try.func6, Try.ntmps6
  go_upto_region 8 with (first | (go_at_call 15; refine hcall.mono ?_; rintro e wq ⟨⟨b, rfl⟩, hwq⟩; subst hwq; cases b) | (go_at_call 16; refine (clone16n a n c bs _ h t1).mono ?_; rintro e w1 ⟨a1, rfl, h1, g1⟩; clear hcall))
  · go_ret
    exact ⟨rfl, Below.refl _ _⟩
  go_upto_if 66 with (go_at_call 17; refine (znext17y cs ls m p j a1 n bs _ h1 t4 t5 t6 (by omega) Hp.out Hq.out).mono ?_; rintro e w2 ⟨g2, ⟨hs, rfl⟩ | ⟨hs, C, L, R, ap, cp, ar, cr, HC, HL, HR, rfl, x1, x2⟩⟩; all_goals (have h2 := h1.below g2; have hfin := g1.trans (g2.mono g1.size); have Hs := hid hs; clear g1 g2 h1 hs))
  · go_cut [16] from 66 to 93 (fun s wx => s = .int .i64 (m : Int) ∧ wx = w2 ∧ Hid (¬ (p = true ∧ m < n ∧ bs.getD m 0 = 255)))
    case first =>
      cases p with
      | false =>
        obtain rfl := Hq.out rfl
        go_wp2
        go_meet
        case rel => exact ⟨rfl, rfl, hid (fun h => by cases h.1)⟩
      | true =>
        have hlead := Hp.out rfl
        go_wp2_with fail
        go_loopw [16] (fun v ws => ws = w2 ∧ ∃ k : Nat, k ≤ n ∧ v = .int .i64 k ∧ ∀ i, i < k → bs.getD i 0 = 0) (fun v _ => n - (intOf v).toNat)
        case atStart => exact ⟨rfl, 0, Nat.zero_le _, rfl, fun i hi => by omega⟩
        case round =>
          obtain ⟨rfl, k, hk, rfl, hz⟩ := hrel
          have Hz := hid hz
          clear hz
          by_cases hlt : k < n
          · obtain ⟨b, off, rfl, hc, hwf⟩ := h2.at hlt
            obtain ⟨x, hx⟩ : ∃ x, x = bs.getD k 0 := ⟨_, rfl⟩
            rw [← hx] at hc
            have Hx := hid hx
            clear hx hwf
            by_cases x0 : x = 0
            · subst x0
              go_wp2
              go_roundw
              case rel =>
                refine ⟨trivial, k + 1, by omega, by go_num, fun i hi => ?_⟩
                by_cases e : i = k
                · rw [e]; exact Hx.out.symm
                · exact Hz.out i (by omega)
              case measure => simp [intOf]; omega
            · have hm : k = m := Lead.uniq ⟨by omega, Hz.out, fun _ => by rw [← Hx.out]; exact x0⟩ hlead
              subst hm
              by_cases x5 : x = 255
              · have x5' : (x == 255) = true := by simp [x5]
                go_wp2_with (go_at_call 18; refine (refused18 _).mono ?_; rintro e w9 ⟨rfl, rfl⟩)
                go_ret
                exact ⟨rfl, hfin⟩
              · have x5' : (x == 255) = false := by simp [x5]
                have x0' : (x == 0) = false := by simp [x0]
                have Hx5 := hid x5
                clear x5
                go_wp2
                go_meet
                case rel => exact ⟨rfl, rfl, hid (fun h => Hx5.out (by rw [Hx.out]; exact h.2.2))⟩
          · have hm : k = m := Lead.uniq ⟨by omega, Hz.out, fun h => by omega⟩ hlead
            subst hm
            go_wp2
            go_meet
            case rel => exact ⟨rfl, rfl, hid (fun h => hlt h.2.1)⟩
    case rest =>
      obtain ⟨rfl, rfl, hnend⟩ := hcut
      rename World => w3
      by_cases q2 : n < m + (cs + ls)
      · have hav : ((n : Int) - m - ((cs : Int) + ls)) < 0 := by omega
        go_wp2_with (go_at_call 18; refine (refused18 _).mono ?_; rintro e w9 ⟨rfl, rfl⟩)
        go_ret
        exact ⟨rfl, hfin⟩
      · have hthird : 0 < ls ∧ n < m + (cs + ls) + be ((bs.drop (m + cs)).take ls) := by
          rcases Hs.out with h | h | h
          · exact absurd ⟨h.1, by omega, h.2.2⟩ hnend.out
          · omega
          · exact ⟨h.1, by omega⟩
        obtain ⟨hl0, hU⟩ := hthird
        obtain ⟨b, off, rfl, _, _⟩ := h2.at (j := 0) (by omega)
        have HU := hid hU
        clear hU
        have hlne : ¬ ls = 0 := by omega
        have hls' : ((ls : Int) == 0) = false := by simp [hlne]
        have hsub := h2.sub (m + cs) ls (by omega)
        have hnm : ¬ n = m + cs := by omega
        go_upto_if 110 with fail
        go_cut [19] from 109 to 128 (fun s wx => s = .int .i64 (-1) ∧ wx = w3)
        case first =>
          go_wp2_with fail
          go_loopw [19, 20] (fun l v ws => ws = w3 ∧ l = .int .i64 (-1) ∧ ∃ k : Nat, k + (m + (cs + ls)) ≤ n + 1 ∧ v = .int .i64 k) (fun _ v _ => n + 1 - (intOf v).toNat)
          case atStart => exact ⟨rfl, rfl, 0, by omega, rfl⟩
          case round =>
            obtain ⟨rfl, rfl, k, hk, rfl⟩ := hrel
            by_cases hlt : k + (m + (cs + ls)) ≤ n
            · have hle : (k : Int) ≤ (n : Int) - m - ((cs : Int) + ls) := by omega
              have hne : decide (be ((bs.drop (m + cs)).take ls) = k) = false := decide_eq_false (by have := HU.out; omega)
              have Hne := hid hne
              clear hne
              go_wp2_with (go_at_call 19; rw [show m + (cs + ls) - (m + cs) = ls by omega]; refine (enc19 (some ⟨b, off + (m + cs), none⟩) ls _ _ k _ hsub (by omega)).mono ?_; rintro e w8 ⟨rfl, rfl⟩; rw [Hne.out])
              go_roundw
              case rel =>
                exact ⟨trivial, rfl, k + 1, by omega, by go_num⟩
              case measure => simp [intOf]; omega
            · have hgt : ¬ (k : Int) ≤ (n : Int) - m - ((cs : Int) + ls) := by omega
              go_wp2
              go_meet
              case rel => exact ⟨rfl, rfl⟩
        case rest =>
          obtain ⟨rfl, rfl⟩ := hcut
          go_wp2_with (go_at_call 18; refine (refused18 _).mono ?_; rintro e w9 ⟨rfl, rfl⟩)
          go_ret
          exact ⟨rfl, hfin⟩
  · go_cut [16] from 66 to 93 (fun s wx => s = .int .i64 (m : Int) ∧ wx = w2 ∧ Hid (¬ (p = true ∧ m < n ∧ bs.getD m 0 = 255)))
    case first =>
      cases p with
      | false =>
        obtain rfl := Hq.out rfl
        go_wp2
        go_meet
        case rel => exact ⟨rfl, rfl, hid (fun h => by cases h.1)⟩
      | true =>
        have hlead := Hp.out rfl
        go_wp2_with fail
        go_loopw [16] (fun v ws => ws = w2 ∧ ∃ k : Nat, k ≤ n ∧ v = .int .i64 k ∧ ∀ i, i < k → bs.getD i 0 = 0) (fun v _ => n - (intOf v).toNat)
        case atStart => exact ⟨rfl, 0, Nat.zero_le _, rfl, fun i hi => by omega⟩
        case round =>
          obtain ⟨rfl, k, hk, rfl, hz⟩ := hrel
          have Hz := hid hz
          clear hz
          by_cases hlt : k < n
          · obtain ⟨b, off, rfl, hc, hwf⟩ := h2.at hlt
            obtain ⟨x, hx⟩ : ∃ x, x = bs.getD k 0 := ⟨_, rfl⟩
            rw [← hx] at hc
            have Hx := hid hx
            clear hx hwf
            by_cases x0 : x = 0
            · subst x0
              go_wp2
              go_roundw
              case rel =>
                refine ⟨trivial, k + 1, by omega, by go_num, fun i hi => ?_⟩
                by_cases e : i = k
                · rw [e]; exact Hx.out.symm
                · exact Hz.out i (by omega)
              case measure => simp [intOf]; omega
            · have hm : k = m := Lead.uniq ⟨by omega, Hz.out, fun _ => by rw [← Hx.out]; exact x0⟩ hlead
              subst hm
              by_cases x5 : x = 255
              · have x5' : (x == 255) = true := by simp [x5]
                exact absurd (.inl ⟨rfl, by omega, by rw [← Hx.out]; exact x5⟩) Hs.out
              · have x5' : (x == 255) = false := by simp [x5]
                have x0' : (x == 0) = false := by simp [x0]
                have Hx5 := hid x5
                clear x5
                go_wp2
                go_meet
                case rel => exact ⟨rfl, rfl, hid (fun h => Hx5.out (by rw [Hx.out]; exact h.2.2))⟩
          · have hm : k = m := Lead.uniq ⟨by omega, Hz.out, fun h => by omega⟩ hlead
            subst hm
            go_wp2
            go_meet
            case rel => exact ⟨rfl, rfl, hid (fun h => hlt h.2.1)⟩
    case rest =>
      obtain ⟨rfl, rfl, hnend⟩ := hcut
      rename World => w3
      have q2 : m + (cs + ls) ≤ n := Nat.le_of_not_lt (fun h => Hs.out (.inr (.inl (by omega))))
      have hL0 : Hid (ls = 0 → L + (m + (cs + ls)) = n) := hid (fun h0 => by
        have h := HL.out
        unfold pay at h
        rw [if_pos h0] at h
        omega)
      have hLU : Hid (¬ ls = 0 → be ((bs.drop (m + cs)).take ls) = L) := hid (fun h0 => by
        have h := HL.out
        unfold pay at h
        rw [if_neg h0] at h
        exact h.symm)
      have hL1 : L + (m + (cs + ls)) ≤ n := by
        by_cases h0 : ls = 0
        · have := hL0.out h0
          omega
        · have h := hLU.out h0
          rcases Nat.lt_or_ge n (m + (cs + ls) + be ((bs.drop (m + cs)).take ls)) with h3 | h3
          · exact absurd (.inr (.inr ⟨by omega, by omega⟩)) Hs.out
          · omega
      obtain ⟨b, off, rfl, _, _⟩ := h2.at (j := 0) (by omega)
      have hav : ¬ ((n : Int) - m - ((cs : Int) + ls)) < 0 := by omega
      have hnm : ¬ n = m := by omega
      go_upto_if 110 with fail
      go_cut [19] from 109 to 128 (fun s wx => s = .int .i64 (L : Int) ∧ wx = w3)
      case first =>
        by_cases hls : ls = 0
        · have hls' : ((ls : Int) == 0) = true := by simp [hls]
          have Hls := hid hls
          clear hls
          go_wp2
          go_meet
          case rel => exact ⟨congrArg (Value.int .i64) (by have := hL0.out Hls.out; omega), rfl⟩
        · have hls' : ((ls : Int) == 0) = false := by simp [hls]
          have hsub := h2.sub (m + cs) ls (by omega)
          have hnc : ¬ n = m + cs := by omega
          rw [hls']
          go_wp2_with fail
          go_loopw [19, 20] (fun l v ws => ws = w3 ∧ l = .int .i64 (-1) ∧ ∃ k : Nat, k ≤ L ∧ v = .int .i64 k) (fun _ v _ => n + 1 - (intOf v).toNat)
          case atStart => exact ⟨rfl, rfl, 0, Nat.zero_le _, rfl⟩
          case round =>
            obtain ⟨rfl, rfl, k, hk, rfl⟩ := hrel
            have hle : (k : Int) ≤ (n : Int) - m - ((cs : Int) + ls) := by omega
            by_cases hkL : k = L
            · have Hne : Hid (decide (be ((bs.drop (m + cs)).take ls) = k) = true) := hid (decide_eq_true (by rw [hLU.out hls]; exact hkL.symm))
              have HkL := hid hkL
              clear hkL
              go_wp2_with (go_at_call 19; rw [show m + (cs + ls) - (m + cs) = ls by omega]; refine (enc19 (some ⟨b, off + (m + cs), none⟩) ls _ _ k _ hsub (by omega)).mono ?_; rintro e w8 ⟨rfl, rfl⟩; rw [Hne.out])
              go_meet
              case rel => exact ⟨congrArg (Value.int .i64) (by have := HkL.out; omega), rfl⟩
            · have Hne : Hid (decide (be ((bs.drop (m + cs)).take ls) = k) = false) := hid (decide_eq_false (by rw [hLU.out hls]; exact fun h => hkL h.symm))
              go_wp2_with (go_at_call 19; rw [show m + (cs + ls) - (m + cs) = ls by omega]; refine (enc19 (some ⟨b, off + (m + cs), none⟩) ls _ _ k _ hsub (by omega)).mono ?_; rintro e w8 ⟨rfl, rfl⟩; rw [Hne.out])
              go_roundw
              case rel =>
                exact ⟨trivial, rfl, k + 1, by omega, by go_num⟩
              case measure => simp [intOf]; omega
      case rest =>
        obtain ⟨rfl, rfl⟩ := hcut
        rename World => w4
        have hA := h2.sub m cs (by omega)
        have hd : decide (be ((bs.drop m).take cs) = C) = true := decide_eq_true HC.out.symm
        have hCb : C < 18446744073709551616 := by
          rw [HC.out]
          exact be_lt64 (h2.byt.sub m cs) (by rw [List.length_take]; omega)
        have Hd := hid hd
        clear hd
        have hB := h2.subIf (m + (cs + ls)) L (by omega)
        have hD : Rd w4 .u8 (if n = m + (cs + ls) + L then some ⟨b, off, none⟩ else some ⟨b, off + (m + (cs + ls) + L), none⟩) R (bs.drop (m + (cs + ls) + L)) := by
          have hR := HR.out
          have h := h2.subIf (m + (cs + ls) + L) R (by omega)
          rwa [List.take_of_length_le (by rw [List.length_drop]; omega)] at h
        go_wp2_with (first | (go_at_call 19; refine (enc19 (some ⟨b, off + m, none⟩) cs _ _ C _ hA hCb).mono ?_; rintro e w8 ⟨rfl, rfl⟩; rw [Hd.out]) | (go_at_call 20; with_reducible (refine (same20 ap L cp _ _ _ _ x1 hB).mono ?_); rintro e w9 ⟨rfl, q9, rfl⟩) | (go_at_call 20; rw [← HR.out]; with_reducible (refine (same20 ar R cr _ _ _ _ (x2.drewN _) (hD.drewN _)).mono ?_); rintro e w9 ⟨rfl, q10, rfl⟩))
        all_goals go_ret
        all_goals exact ⟨rfl, below_drewN hfin _⟩

end Go.Proofs.Qxb6601535a
