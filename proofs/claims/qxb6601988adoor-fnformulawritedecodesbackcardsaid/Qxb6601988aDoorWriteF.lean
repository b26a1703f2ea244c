/-
  (*formula).write.
-/
import Derived.Test.Qxb6601988aDoorWrite
namespace Go.Proofs.Qxb6601988aDoor
open Go.RowKit
open Go.Deep (BT)

theorem ftext_len (op : Int) (s : Option ByteArray) (sh : Bool) (args : TL) (l : FL) : (ftext ((op, s, sh, args), l)).length = (Lib.itoa op ++ nameOf s ++ [40]).length + (textT args).length + (textF l).length + 1 := by
  simp only [ftext, textF1, List.length_append, List.length_cons, List.length_nil]

set_option maxHeartbeats 2000000 in
set_option maxRecDepth 100000 in
theorem write15 : ∀ x : F1, ∀ (w : World) (L q B b : Nat) (l0 : List UInt8), One (HdFB w L) x (some (.pointer (some ⟨q, 0, none⟩))) → Lib.IsBuilderF 31 5 B b (Lib.byteCells l0) w →
    l0.length + (ftext x).length ≤ 4194304 → B ≤ w.heap.size → 3 ≤ B → Tab w →
    Calls Tryd.prog 15 #[.pointer (some ⟨q, 0, none⟩), .pointer (some ⟨b, 0, none⟩)] w fun e w' => e = .returned (.tuple #[]) ∧ Bld w B b (l0 ++ ftext x) w' := by
  apply ind_one
  rintro ⟨op, s, sh, args⟩ l ih w L q B b l0 hone hbld hlen hB hB3 htab
  obtain ⟨q', p, sl, m, cap, xl, xcap, sh', hq, hLq, hblk, hsym, hwf, hmA, hmaxA, hmaxX, ⟨rb, cur, hsl, hall⟩, xb, curx, hxl, hallX⟩ := hone
  simp only [Option.some.injEq, Value.pointer.injEq, Addr.mk.injEq, and_true] at hq
  subst hq
  obtain rfl : m = len args := hmA
  have c0 : w.cell? ⟨q, 0, none⟩ = some (.int .i64 op) := by rw [Lib.cell_of_heap hblk]; rfl
  have Hi := hid ih
  have hmx : len l ≤ maxLen := hmaxX
  unfold maxLen at hmx hmaxA
  have hw : wfI op := hwf
  rw [ftext_len] at hlen
  have h0 : Bld w B b l0 w := ⟨hbld, Below.refl _ _, Kept.refl _ _⟩
  have Hlen := hid hlen
  have hl0 : l0.length ≤ 4194304 := by omega
  have Hblk := hid hblk
  clear ih hmaxX hlen hblk
  have CW : ∀ w', Kept 0 w w' → w'.cell? ⟨q, 1, none⟩ = some (.pointer p) ∧ w'.cell? ⟨q, 2, none⟩ = some (.slice sl (len args) cap) ∧ w'.cell? ⟨q, 3, none⟩ = some (.slice xl (len l) xcap) := fun w' hk => by
    have h2 := hk _ _ _ (Nat.zero_le _) Hblk.out (.inr (.inr (.inr (.inl rfl))))
    exact ⟨by rw [Lib.cell_of_heap h2]; rfl, by rw [Lib.cell_of_heap h2]; rfl, by rw [Lib.cell_of_heap h2]; rfl⟩
  have HCW := hid CW
  clear CW
  go_enter Tryd.func15, Tryd.ntmps15
  rcases hsym with ⟨rfl, hs⟩ | ⟨nm, k, hs, rfl, hk, hsy, hnm⟩
  · obtain rfl : s = none := hs
    go_wp2_with (first
      | (go_at_call 26; refine (itoa26 op hw _ htab).mono ?_; rintro e w1 ⟨sv, rfl, Hsv, hsv, hb1⟩; have hB1 : B ≤ w1.heap.size := (by have := hb1.size; omega); have H1 := hid (h0.later hB hb1))
      | (go_at_call 6; refine (str6 B b l0 sv _ H1.out.bld (by omega) hB1).mono ?_; rintro e w2 ⟨rfl, h2⟩; rw [Hsv.out] at h2; have H2 := hid (H1.out.step h2); have hB2 := h2.size hB1; obtain ⟨e1, e2, e3⟩ := HCW.out w2 H2.out.kept; clear h2)
      | (go_at_call 27; refine (byt27 B b _ 40 40 rfl _ H2.out.bld (by have h1 := Hlen.out; simp only [nameOf, List.length_append, List.length_cons, List.length_nil] at h1 ⊢; omega) hB2).mono ?_; rintro e w3 ⟨rfl, h3⟩; have H3' := hid (H2.out.step h3); clear h3 e1 e2 e3; obtain ⟨e1, e2, e3⟩ := HCW.out w3 H3'.out.kept))
    have H3 := hid (show Bld w B b (l0 ++ (Lib.itoa op ++ [] ++ [40])) w3 from by simpa only [List.append_assoc, List.nil_append] using H3'.out)
    clear H1 H2 H3'
    go_loopw [36] (fun v ws => ∃ k : Nat, k ≤ len args ∧ v = .int .i64 k ∧ Hid (Bld w B b (l0 ++ (Lib.itoa op ++ [] ++ [40]) ++ preX text args k) ws)) (fun v _ => len args - (intOf v).toNat)
    case atStart => exact ⟨0, Nat.zero_le _, rfl, by rw [preX_zero, List.append_nil]; exact H3.out⟩
    case round =>
      obtain ⟨j, hj, rfl, Hb⟩ := hrel
      by_cases hlt : j < len args
      · obtain ⟨y, hy⟩ := toL_at hlt
        obtain ⟨rfl, hLb, hrow⟩ : sl = some ⟨rb, 0, none⟩ ∧ L ≤ rb ∧ w.heap[rb]? = some (.cells cur 58 (0, 0)) := by
          rcases hsl with h | h
          · have h' : len args = 0 := h
            omega
          · exact h
        have hrow' := Hb.out.kept _ _ _ (Nat.zero_le _) hrow (.inr (.inr (.inl rfl)))
        have hyo := hall.get hy
        obtain ⟨qy, py, sly, capy, hqy, _⟩ := hyo
        have hcell : wr.cell? ⟨rb, j, none⟩ = some (.pointer (some ⟨qy, 0, none⟩)) := by rw [Lib.cell_of_heap hrow']; exact hqy
        have Hyo := hid (show One (HdTB wr L) y (some (.pointer (some ⟨qy, 0, none⟩))) from oneTB_kept (Hb.out.kept.mono (Nat.zero_le _)) (Nat.le_refl _) (hqy ▸ hall.get hy))
        have hle := preX_le text hy
        rw [← textT_join] at hle
        have hsz : (l0 ++ (Lib.itoa op ++ [] ++ [40]) ++ preX text args j).length + (text y).length + 1 ≤ 4194304 := by
          have h1 := Hlen.out
          rw [List.length_append, List.length_append]
          have h2 : (Lib.itoa op ++ [] ++ [40]).length = (Lib.itoa op ++ nameOf none ++ [40]).length := rfl
          omega
        have Hsz := hid hsz
        have Hy := hid hy
        have hBr := Hb.out.size hB
        have htr := htab.below Hb.out.below hB3
        clear hle hsz hy hrow hrow' hqy
        go_wp2_with (first
          | (go_at_call 28; refine (write28 y _ L qy B b _ Hyo.out Hb.out.bld (by have := Hsz.out; omega) hBr hB3 htr).mono ?_; rintro e w5 ⟨rfl, h5⟩; have H5 := hid h5; have hB5 := h5.size hBr; clear h5)
          | (go_at_call 27; refine (byt27 B b _ 44 44 rfl _ H5.out.bld (by have := Hsz.out; simp only [List.length_append] at this ⊢; omega) hB5).mono ?_; rintro e w6 ⟨rfl, h6⟩; have H6 := hid h6; clear h6))
        go_roundw
        case rel =>
          refine ⟨j + 1, by omega, by go_num, ?_⟩
          have h7 := (Hb.out.step H5.out).step H6.out
          rw [preX_succ text Hy.out]
          show Bld _ _ _ _ _
          simpa only [List.append_assoc] using h7
        case measure => simp [intOf]; omega
      · have hkl : len args ≤ j := by omega
        have HA := hid (show Bld w B b (l0 ++ (Lib.itoa op ++ [] ++ [40]) ++ textT args) wr from by rw [textT_join, ← preX_all text args hkl]; exact Hb.out)
        obtain ⟨_, _, e3⟩ := HCW.out wr HA.out.kept
        clear Hb
        go_wp2_with fail
        go_loopw [51] (fun v ws => ∃ k : Nat, k ≤ len l ∧ v = .int .i64 k ∧ Hid (Bld w B b (l0 ++ (Lib.itoa op ++ [] ++ [40]) ++ textT args ++ preX ftext l k) ws)) (fun v _ => len l - (intOf v).toNat)
        case atStart => exact ⟨0, Nat.zero_le _, rfl, by rw [preX_zero, List.append_nil]; exact HA.out⟩
        case round =>
          clear hkl hlt hj e3 HA
          obtain ⟨j, hj, rfl, Hb⟩ := hrel
          by_cases hlt : j < len l
          · obtain ⟨y, hy⟩ := toL_at hlt
            obtain ⟨rfl, hLb, hrow⟩ : xl = some ⟨xb, 0, none⟩ ∧ L ≤ xb ∧ w.heap[xb]? = some (.cells curx 37 (0, 0)) := by
              rcases hxl with h | h
              · have h' : len l = 0 := h
                omega
              · exact h
            have hrow' := Hb.out.kept _ _ _ (Nat.zero_le _) hrow (.inr (.inr (.inr (.inr rfl))))
            have hyo := hallX.get hy
            obtain ⟨qy, py, sly, my, capy, xly, xcapy, shy, hqy, _⟩ := hyo
            have hcell : wr.cell? ⟨xb, j, none⟩ = some (.pointer (some ⟨qy, 0, none⟩)) := by rw [Lib.cell_of_heap hrow']; exact hqy
            have Hyo := hid (show One (HdFB wr L) y (some (.pointer (some ⟨qy, 0, none⟩))) from oneFB_kept (Hb.out.kept.mono (Nat.zero_le _)) (Nat.le_refl _) (hqy ▸ hallX.get hy))
            have hle := preX_le ftext hy
            rw [← textF_join] at hle
            have hsz : (l0 ++ (Lib.itoa op ++ [] ++ [40]) ++ textT args ++ preX ftext l j).length + (ftext y).length + 1 ≤ 4194304 := by
              have h1 := Hlen.out
              rw [List.length_append, List.length_append, List.length_append]
              have h2 : (Lib.itoa op ++ [] ++ [40]).length = (Lib.itoa op ++ nameOf none ++ [40]).length := rfl
              omega
            have Hsz := hid hsz
            have Hy := hid hy
            have hBr := Hb.out.size hB
            have htr := htab.below Hb.out.below hB3
            clear hle hsz hy hrow hrow' hqy
            go_wp2_with (first
              | (go_at_call 15; refine (Hi.out j y Hy.out _ L qy B b _ Hyo.out Hb.out.bld (by have := Hsz.out; omega) hBr hB3 htr).mono ?_; rintro e w5 ⟨rfl, h5⟩; have H5 := hid h5; have hB5 := h5.size hBr; clear h5)
              | (go_at_call 27; refine (byt27 B b _ 44 44 rfl _ H5.out.bld (by have := Hsz.out; simp only [List.length_append] at this ⊢; omega) hB5).mono ?_; rintro e w6 ⟨rfl, h6⟩; have H6 := hid h6; clear h6))
            go_roundw
            case rel =>
              refine ⟨j + 1, by omega, by go_num, ?_⟩
              have h7 := (Hb.out.step H5.out).step H6.out
              rw [preX_succ ftext Hy.out]
              show Bld _ _ _ _ _
              simpa only [List.append_assoc] using h7
            case measure => simp [intOf]; omega
          · have hBr := Hb.out.size hB
            have hkl : len l ≤ j := by omega
            have hsz : (l0 ++ (Lib.itoa op ++ [] ++ [40]) ++ textT args ++ preX ftext l j).length + 1 ≤ 140737488355328 := by
              have h1 := Hlen.out
              rw [preX_all ftext l hkl, ← textF_join, List.length_append, List.length_append, List.length_append]
              have h2 : (Lib.itoa op ++ [] ++ [40]).length = (Lib.itoa op ++ nameOf none ++ [40]).length := rfl
              omega
            have Hsz := hid hsz
            clear hsz
            go_wp2_with (go_at_call 27; refine (byt27 B b _ 41 41 rfl _ Hb.out.bld Hsz.out hBr).mono ?_; rintro e w6 ⟨rfl, h6⟩; have H6 := hid h6; clear h6)
            go_end0
            refine ⟨rfl, ?_⟩
            have h7 := Hb.out.step H6.out
            rw [preX_all ftext l hkl, ← textF_join] at h7
            simpa only [ftext, textF1, nameOf, List.append_assoc] using h7
  · obtain rfl : s = some nm := hs
    have hnm4 : l0.length + 21 + nm.size ≤ 4194325 := by
      have h1 := Hlen.out
      have h2 := size_toList nm
      simp only [nameOf, List.length_append, List.length_cons, List.length_nil] at h1
      omega
    have HSY := hid (fun w' (hk' : Kept 0 w w') => (show w'.cell? ⟨k, 0, none⟩ = some (.string nm) by rw [Lib.cell_of_heap (hk' _ _ _ (Nat.zero_le _) hsy (.inl rfl))]; rfl))
    clear hsy
    go_wp2_with (first
      | (go_at_call 26; refine (itoa26 op hw _ htab).mono ?_; rintro e w1 ⟨sv, rfl, Hsv, hsv, hb1⟩; have hB1 : B ≤ w1.heap.size := (by have := hb1.size; omega); have H1 := hid (h0.later hB hb1))
      | (go_at_call 6; refine (str6 B b l0 sv _ H1.out.bld (by omega) hB1).mono ?_; rintro e w2 ⟨rfl, h2⟩; rw [Hsv.out] at h2; have H2 := hid (H1.out.step h2); have hB2 := h2.size hB1; obtain ⟨e1, e2, e3⟩ := HCW.out w2 H2.out.kept; have e4 := HSY.out w2 H2.out.kept; clear h2 H1)
      | (go_at_call 6; refine (str6 B b _ nm _ H2.out.bld (by have h1 := Hlen.out; have h2 := size_toList nm; simp only [nameOf, List.length_append, List.length_cons, List.length_nil] at h1 ⊢; omega) hB2).mono ?_; rintro e w2' ⟨rfl, h2⟩; have H2' := hid (H2.out.step h2); have hB2' := h2.size hB2; clear h2)
      | (go_at_call 27; refine (byt27 B b _ 40 40 rfl _ H2'.out.bld (by have h1 := Hlen.out; simp only [nameOf, List.length_append, List.length_cons, List.length_nil] at h1 ⊢; omega) hB2').mono ?_; rintro e w3 ⟨rfl, h3⟩; have H3' := hid (H2'.out.step h3); clear h3 e1 e2 e3 e4; obtain ⟨e1, e2, e3⟩ := HCW.out w3 H3'.out.kept))
    have H3 := hid (show Bld w B b (l0 ++ (Lib.itoa op ++ nm.data.toList ++ [40])) w3 from by simpa only [List.append_assoc] using H3'.out)
    clear H2 H2' H3'
    go_loopw [36] (fun v ws => ∃ k : Nat, k ≤ len args ∧ v = .int .i64 k ∧ Hid (Bld w B b (l0 ++ (Lib.itoa op ++ nm.data.toList ++ [40]) ++ preX text args k) ws)) (fun v _ => len args - (intOf v).toNat)
    case atStart => exact ⟨0, Nat.zero_le _, rfl, by rw [preX_zero, List.append_nil]; exact H3.out⟩
    case round =>
      obtain ⟨j, hj, rfl, Hb⟩ := hrel
      by_cases hlt : j < len args
      · obtain ⟨y, hy⟩ := toL_at hlt
        obtain ⟨rfl, hLb, hrow⟩ : sl = some ⟨rb, 0, none⟩ ∧ L ≤ rb ∧ w.heap[rb]? = some (.cells cur 58 (0, 0)) := by
          rcases hsl with h | h
          · have h' : len args = 0 := h
            omega
          · exact h
        have hrow' := Hb.out.kept _ _ _ (Nat.zero_le _) hrow (.inr (.inr (.inl rfl)))
        have hyo := hall.get hy
        obtain ⟨qy, py, sly, capy, hqy, _⟩ := hyo
        have hcell : wr.cell? ⟨rb, j, none⟩ = some (.pointer (some ⟨qy, 0, none⟩)) := by rw [Lib.cell_of_heap hrow']; exact hqy
        have Hyo := hid (show One (HdTB wr L) y (some (.pointer (some ⟨qy, 0, none⟩))) from oneTB_kept (Hb.out.kept.mono (Nat.zero_le _)) (Nat.le_refl _) (hqy ▸ hall.get hy))
        have hle := preX_le text hy
        rw [← textT_join] at hle
        have hsz : (l0 ++ (Lib.itoa op ++ nm.data.toList ++ [40]) ++ preX text args j).length + (text y).length + 1 ≤ 4194304 := by
          have h1 := Hlen.out
          rw [List.length_append, List.length_append]
          have h2 : (Lib.itoa op ++ nm.data.toList ++ [40]).length = (Lib.itoa op ++ nameOf (some nm) ++ [40]).length := rfl
          omega
        have Hsz := hid hsz
        have Hy := hid hy
        have hBr := Hb.out.size hB
        have htr := htab.below Hb.out.below hB3
        clear hle hsz hy hrow hrow' hqy
        go_wp2_with (first
          | (go_at_call 28; refine (write28 y _ L qy B b _ Hyo.out Hb.out.bld (by have := Hsz.out; omega) hBr hB3 htr).mono ?_; rintro e w5 ⟨rfl, h5⟩; have H5 := hid h5; have hB5 := h5.size hBr; clear h5)
          | (go_at_call 27; refine (byt27 B b _ 44 44 rfl _ H5.out.bld (by have := Hsz.out; simp only [List.length_append] at this ⊢; omega) hB5).mono ?_; rintro e w6 ⟨rfl, h6⟩; have H6 := hid h6; clear h6))
        go_roundw
        case rel =>
          refine ⟨j + 1, by omega, by go_num, ?_⟩
          have h7 := (Hb.out.step H5.out).step H6.out
          rw [preX_succ text Hy.out]
          show Bld _ _ _ _ _
          simpa only [List.append_assoc] using h7
        case measure => simp [intOf]; omega
      · have hkl : len args ≤ j := by omega
        have HA := hid (show Bld w B b (l0 ++ (Lib.itoa op ++ nm.data.toList ++ [40]) ++ textT args) wr from by rw [textT_join, ← preX_all text args hkl]; exact Hb.out)
        obtain ⟨_, _, e3⟩ := HCW.out wr HA.out.kept
        clear Hb
        go_wp2_with fail
        go_loopw [51] (fun v ws => ∃ k : Nat, k ≤ len l ∧ v = .int .i64 k ∧ Hid (Bld w B b (l0 ++ (Lib.itoa op ++ nm.data.toList ++ [40]) ++ textT args ++ preX ftext l k) ws)) (fun v _ => len l - (intOf v).toNat)
        case atStart => exact ⟨0, Nat.zero_le _, rfl, by rw [preX_zero, List.append_nil]; exact HA.out⟩
        case round =>
          clear hkl hlt hj e3 HA
          obtain ⟨j, hj, rfl, Hb⟩ := hrel
          by_cases hlt : j < len l
          · obtain ⟨y, hy⟩ := toL_at hlt
            obtain ⟨rfl, hLb, hrow⟩ : xl = some ⟨xb, 0, none⟩ ∧ L ≤ xb ∧ w.heap[xb]? = some (.cells curx 37 (0, 0)) := by
              rcases hxl with h | h
              · have h' : len l = 0 := h
                omega
              · exact h
            have hrow' := Hb.out.kept _ _ _ (Nat.zero_le _) hrow (.inr (.inr (.inr (.inr rfl))))
            have hyo := hallX.get hy
            obtain ⟨qy, py, sly, my, capy, xly, xcapy, shy, hqy, _⟩ := hyo
            have hcell : wr.cell? ⟨xb, j, none⟩ = some (.pointer (some ⟨qy, 0, none⟩)) := by rw [Lib.cell_of_heap hrow']; exact hqy
            have Hyo := hid (show One (HdFB wr L) y (some (.pointer (some ⟨qy, 0, none⟩))) from oneFB_kept (Hb.out.kept.mono (Nat.zero_le _)) (Nat.le_refl _) (hqy ▸ hallX.get hy))
            have hle := preX_le ftext hy
            rw [← textF_join] at hle
            have hsz : (l0 ++ (Lib.itoa op ++ nm.data.toList ++ [40]) ++ textT args ++ preX ftext l j).length + (ftext y).length + 1 ≤ 4194304 := by
              have h1 := Hlen.out
              rw [List.length_append, List.length_append, List.length_append]
              have h2 : (Lib.itoa op ++ nm.data.toList ++ [40]).length = (Lib.itoa op ++ nameOf (some nm) ++ [40]).length := rfl
              omega
            have Hsz := hid hsz
            have Hy := hid hy
            have hBr := Hb.out.size hB
            have htr := htab.below Hb.out.below hB3
            clear hle hsz hy hrow hrow' hqy
            go_wp2_with (first
              | (go_at_call 15; refine (Hi.out j y Hy.out _ L qy B b _ Hyo.out Hb.out.bld (by have := Hsz.out; omega) hBr hB3 htr).mono ?_; rintro e w5 ⟨rfl, h5⟩; have H5 := hid h5; have hB5 := h5.size hBr; clear h5)
              | (go_at_call 27; refine (byt27 B b _ 44 44 rfl _ H5.out.bld (by have := Hsz.out; simp only [List.length_append] at this ⊢; omega) hB5).mono ?_; rintro e w6 ⟨rfl, h6⟩; have H6 := hid h6; clear h6))
            go_roundw
            case rel =>
              refine ⟨j + 1, by omega, by go_num, ?_⟩
              have h7 := (Hb.out.step H5.out).step H6.out
              rw [preX_succ ftext Hy.out]
              show Bld _ _ _ _ _
              simpa only [List.append_assoc] using h7
            case measure => simp [intOf]; omega
          · have hBr := Hb.out.size hB
            have hkl : len l ≤ j := by omega
            have hsz : (l0 ++ (Lib.itoa op ++ nm.data.toList ++ [40]) ++ textT args ++ preX ftext l j).length + 1 ≤ 140737488355328 := by
              have h1 := Hlen.out
              rw [preX_all ftext l hkl, ← textF_join, List.length_append, List.length_append, List.length_append]
              have h2 : (Lib.itoa op ++ nm.data.toList ++ [40]).length = (Lib.itoa op ++ nameOf (some nm) ++ [40]).length := rfl
              omega
            have Hsz := hid hsz
            clear hsz
            go_wp2_with (go_at_call 27; refine (byt27 B b _ 41 41 rfl _ Hb.out.bld Hsz.out hBr).mono ?_; rintro e w6 ⟨rfl, h6⟩; have H6 := hid h6; clear h6)
            go_end0
            refine ⟨rfl, ?_⟩
            have h7 := Hb.out.step H6.out
            rw [preX_all ftext l hkl, ← textF_join] at h7
            simpa only [ftext, textF1, nameOf, List.append_assoc] using h7

end Go.Proofs.Qxb6601988aDoor
