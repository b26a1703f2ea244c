/-
  zzParseTermHB1 on a written term.
-/
import Derived.Test.Qxb6601988aDoorDec
namespace Go.Proofs.Qxb6601988aDoor
open Go.RowKit
open Go.Deep (BT)

theorem info70 : (Tryd.prog.info? 70).map (fun i => (i.zero, i.size, i.bytes)) = some (some (.agg #[.bool false, .int .i64 0, .string ByteArray.empty, .slice none 0 0]), 4, 56) := by kernel_rfl

theorem results_cell_tmp2 {fn : Func} {p u u' : Tmp} {ty : TypeId} (h : fn.results = #[.cell p ty, .tmp u, .tmp u']) (tmps : Array Value) (P : Program) (w : World) :
    (results fn tmps).run P w =
      ((asAddr (tmps.getD p undef)).run P w).andThen fun a w₁ => ((loadVar ty a).run P w₁).andThen fun v w₂ => .ok (.tuple #[v, tmps.getD u undef, tmps.getD u' undef]) w₂ := by
  simp only [results, h]
  simp [Sem.run_bind, Result.andThen]

def Parsed (x : T1) (i : Nat) (w : World) (e : Ending) (w' : World) : Prop :=
  (∃ bv v nm sl m cap, e = .returned (.tuple #[.agg #[.bool bv, .int .i64 v, .string nm, .slice sl m cap], .int .i64 ((i + (text x).length : Nat) : Int), .bool true]) ∧
    One (HdD w' (fun b => w.heap.size ≤ b)) x (ds [.bool bv, .int .i64 v, .string nm, .slice sl m cap])) ∧ Below w.heap.size w w'

set_option maxHeartbeats 2000000 in
set_option maxRecDepth 100000 in
theorem parse23 : ∀ x : T1, ∀ (w : World) (s : ByteArray) (i : Nat), At s i (text x ++ [44]) → ok1 x → wf1 x → s.size ≤ 4194304 →
    Calls Tryd.prog 23 #[.string s, .int .i64 i] w fun e w' => Parsed x i w e w' := by
  apply ind_one
  rintro ⟨sy, v⟩ l ih w s i hat hok hwf hs
  obtain ⟨c, r, hc, hc41, hcd, hc45, hcn, hcs⟩ := text_head _ hok
  obtain ⟨hi, hsi⟩ := hat.left.get (j := 0) (c := c) (by rw [hc]; rfl)
  simp only [Nat.add_zero] at hi hsi
  have Hat := hid hat
  have Hi := hid ih
  have Hok := hid hok
  have Hwf := hid hwf
  clear ih hat hok hwf
  go_enter Tryd.func23, Tryd.ntmps23
  cases sy with
  | none =>
    have hz : ((s[i]).toNat : Int) = 36 := by rw [hsi, hcn rfl]; rfl
    obtain ⟨_, hat1⟩ := At.cons (show At s i (36 :: (Lib.itoa v ++ [44])) from Hat.out)
    obtain ⟨hj, hsj⟩ := hat1.right.get (j := 0) (c := 44) rfl
    have hnd : NoDig s (i + 1 + (Lib.itoa v).length) := fun h => by
      have e : s[i + 1 + (Lib.itoa v).length] = 44 := hsj
      rw [e]
      decide
    have H1 := hid (And.intro hat1.left hnd)
    have hw : wfI v := Hwf.out.1
    clear hc hsi hcn hcs hat1 hnd hsj hj
    obtain ⟨i1, hi1⟩ : ∃ i1, i1 = i + 1 := ⟨_, rfl⟩
    rw [← hi1] at H1
    have hii : (i : Int) + 1 = i1 := by omega
    have Hi1 := hid hi1
    have hi1s : i1 ≤ s.size := by omega
    clear hi1
    obtain ⟨j1, hj1⟩ : ∃ j1, j1 = i1 + (Lib.itoa v).length := ⟨_, rfl⟩
    have Hj1 := hid hj1
    clear hj1
    go_wp2_with (go_at_call 21; refine (int21 s i1 v hw H1.out.1 H1.out.2 (by omega) _).mono ?_; rintro e w5 ⟨rfl, rfl⟩; rw [← Hj1.out])
    refine bodyPost_ret (v := .tuple #[.agg #[.bool true, .int .i64 v, .string ⟨#[]⟩, .slice none 0 0], .int .i64 j1, .bool true]) ?_ rfl ?_
    · rw [results_cell_tmp2 rfl]
      go_simp
    · have e : j1 = i + (text ((none, v), l)).length := by
        have h1 := Hj1.out
        have h2 := Hi1.out
        simp only [text, text1, List.length_cons]
        omega
      rw [e]
      exact ⟨⟨true, v, ⟨#[]⟩, none, 0, 0, rfl, ⟨true, v, _, none, 0, 0, rfl, rfl, rfl, rfl, .inl ⟨rfl, rfl, rfl⟩⟩⟩, box_below _ _⟩
  | some nm =>
    have hz : (((s[i]).toNat : Int) == 36) = false := by
      rw [hsi, beq_eq_false_iff_ne]
      have := hcs (by simp)
      omega
    have hat0 : At s i ((nm.data.toList ++ [40]) ++ ((textT l ++ [41]) ++ [44])) := by
      have h := Hat.out
      simpa only [text, text1, List.append_assoc] using h
    have HA1 := hid hat0.left
    obtain ⟨j0, hj0⟩ : ∃ j0, j0 = i + nm.size + 1 := ⟨_, rfl⟩
    have hat2 : At s j0 (textT l ++ [41]) := by
      have h := hat0.right.left
      rwa [List.length_append, size_toList, List.length_cons, List.length_nil, ← Nat.add_assoc, ← hj0] at h
    have HA2 := hid hat2
    have Hnm := hid (Hok.out nm rfl).1
    have Hj0 := hid hj0
    have hll : len l ≤ 4194304 := by
      have h1 := len_le_text l
      rcases Nat.eq_zero_or_pos (textT l).length with h0 | h0
      · omega
      · have h2 := hat2.left.lt (j := (textT l).length - 1) (by omega)
        omega
    clear hc hsi hcn hcs hat0 hat2 hj0
    go_wp2_with (go_at_call 22; refine (name22 s nm i HA1.out Hnm.out.1.1 (by omega) _).mono ?_; rintro e w5 ⟨rfl, rfl⟩; rw [← Hj0.out])
    have hb1 := box_below w (.cells #[.bool false, .int .i64 0, .string ⟨#[]⟩, .slice none 0 0] 70)
    have hr : (w.alloc (.cells #[.bool false, .int .i64 0, .string ⟨#[]⟩, .slice none 0 0] 70)).heap[w.heap.size]? = some (.cells #[.bool false, .int .i64 0, .string ⟨#[]⟩, .slice none 0 0] 70 (0, 0)) := heap_alloc_new _ _
    have hs1 : (w.alloc (.cells #[.bool false, .int .i64 0, .string ⟨#[]⟩, .slice none 0 0] 70)).heap.size = w.heap.size + 1 := by simp
    generalize (w.alloc (.cells #[.bool false, .int .i64 0, .string ⟨#[]⟩, .slice none 0 0] 70)) = w1 at *
    have Hs1 := hid hs1
    have hlw : w.heap.size < w1.heap.size := by omega
    clear hs1
    go_loopw [11, 13] (fun jv vv ws => ∃ (k j : Nat) (flat : List Value), k ≤ len l ∧ Hid (j = j0 + (preX text l k).length) ∧ jv = .int .i64 j ∧ ws.ownsRow w1.heap.size 70 4 vv k flat ∧ Hid (upD ws (fun b => w1.heap.size ≤ b ∧ vv.ownBlock ≠ some b) l k flat) ∧ Below w1.heap.size w1 ws) (fun jv _ _ => s.size + 1 - (intOf jv).toNat)
    case atStart => exact ⟨0, j0, [], Nat.zero_le _, by rw [preX_zero]; rfl, rfl, World.ownsRow_nil _ _ _ _, upD_zero _ _ _ _, Below.refl _ _⟩
    case round =>
      obtain ⟨k, j, flat, hk, Hj, rfl, hown, Hup, hb⟩ := hrel
      by_cases hlt : k < len l
      · obtain ⟨y, hy⟩ := toL_at hlt
        obtain ⟨r', hr'⟩ := preX_at text hy
        have hj := Hj.out
        have hAt : At s j (text y ++ ([44] ++ r')) := by
          have h := HA2.out.left
          rw [textT_join, hr'] at h
          have h2 := h.right
          rwa [← hj] at h2
        have hAt' : At s j (text y ++ [44]) := by
          rw [← List.append_assoc] at hAt
          exact hAt.left
        have hoky : ok1 y := (okT_iff l).1 (Hok.out nm rfl).2 k y hy
        have hwfy : wf1 y := wfT_get Hwf.out.2 hy
        obtain ⟨cy, ry, hcy, hcy41, _⟩ := text_head y hoky
        obtain ⟨hjs, hsj⟩ := hAt'.left.get (j := 0) (c := cy) (by rw [hcy]; rfl)
        simp only [Nat.add_zero] at hjs hsj
        have hz41 : (((s[j]).toNat : Int) == 41) = false := by
          rw [hsj, beq_eq_false_iff_ne]
          omega
        obtain ⟨j5, hj5⟩ : ∃ j5, j5 = j + (text y).length := ⟨_, rfl⟩
        have hjj : j < j5 := by rw [hj5, hcy]; simp
        obtain ⟨hj5s, hsj5⟩ : ∃ h : j5 < s.size, s[j5] = 44 := by
          obtain ⟨h1, h2⟩ := hAt'.right.get (j := 0) (c := 44) rfl
          subst hj5
          exact ⟨by omega, h2⟩
        have hz44 : ((s[j5]).toNat : Int) = 44 := by rw [hsj5]; rfl
        have HAt := hid hAt'
        have Hy := hid hy
        have Hoky := hid hoky
        have Hwfy := hid hwfy
        have Hj5 := hid hj5
        have hks := hb.size
        obtain ⟨i0, hi', hi0, hi1, hi2⟩ := info_parts info70
        clear hr' hAt hAt' hoky hwfy hcy hsj hj5 hsj5 hy hj hcy41
        go_wp2_with (first
          | (go_at_call 23; refine (Hi.out k y Hy.out _ s j HAt.out Hoky.out Hwfy.out hs).mono ?_; rintro e w5 ⟨⟨bv, v5, nm5, sl5, m5, cap5, rfl, h5⟩, hb5⟩; rw [← Hj5.out]; have H5 := hid h5; have hb5s := hb5.size; clear h5)
          | (at_builtin; refine wpList_append_lies _ rfl _ _ 42 rfl w1.heap.size 70 i0 _ 4 56 Tryd.underlying42 hi' hi0 hi1 hi2 rfl (by decide) u13 k flat rfl (((owns_below hown hb5).alloc _).alloc _) ⟨w5.heap.size + 1, 0, none⟩ 1 1 [.bool bv, .int .i64 v5, .string nm5, .slice sl5 m5 cap5] rfl rfl ?c1 ?c2 (by decide) ?c3 ?c4 ?c5 (w5.heap.size + 1 + 1) ?c6 ?_))
        case c1 => exact World.news_of_block (by have h := heap_alloc_new (w5.alloc (.cells #[.bool bv, .int .i64 v5, .string nm5, .slice sl5 m5 cap5] 70)) (.cells #[.bool bv, .int .i64 v5, .string nm5, .slice sl5 m5 cap5] 70); rwa [World.size_alloc] at h)
        case c2 =>
          intro u hu
          simp only [List.mem_cons, List.not_mem_nil, or_false] at hu
          rcases hu with rfl | rfl | rfl | rfl <;> rfl
        case c3 => unfold maxLen; omega
        case c4 => omega
        case c5 => simp only [World.size_alloc]; omega
        case c6 => simp only [World.size_alloc]
        intro g8 cap8 w8 hown8 hgrow8 hat8 hlt8
        go_wp2_with fail
        have hold : ∀ b, b < w5.heap.size → u13.ownBlock ≠ some b → w8.heap[b]? = w5.heap[b]? := fun b hb hne => by
          rw [hgrow8.block b (by simp only [World.size_alloc]; omega) (fun e => hne e.symm), Below.heap_alloc _ _ b (by simp only [World.size_alloc]; omega), Below.heap_alloc _ _ b hb]
        have hs8 : w5.heap.size ≤ w8.heap.size := by
          have h := hgrow8.size
          simp only [World.size_alloc] at h
          omega
        go_roundw
        case rel =>
          refine ⟨k + 1, j5 + 1, flat ++ [.bool bv, .int .i64 v5, .string nm5, .slice sl5 m5 cap5], hlt, ?_, by go_num, hown8, ?_, ?_⟩
          · have h1 := Hj.out
            have h2 := Hj5.out
            show j5 + 1 = j0 + (preX text l (k + 1)).length
            rw [preX_succ text Hy.out]
            simp only [List.length_append, List.length_cons, List.length_nil]
            omega
          · refine upD_succ Hup.out hown.1 (by omega) (fun b hb hbl => ?_) Hy.out ?_
            · refine ⟨⟨hb.1, fun e => ?_⟩, (hold b (by omega) hb.2).trans (hb5.block b hbl)⟩
              have e' : g8 = b := by simpa [Value.ownBlock] using e
              rcases hat8 with h | h
              · exact hb.2 (by rw [h, e'])
              · omega
            · refine oneD_keep hs8 (fun b hb hbl => ?_) (keeps_refl _) H5.out
              have hne : u13.ownBlock ≠ some b := fun e => by
                have := (hown.lt b e).2
                omega
              refine ⟨⟨by omega, fun e => ?_⟩, hold b hbl hne⟩
              have e' : g8 = b := by simpa [Value.ownBlock] using e
              rcases hat8 with h | h
              · exact hne (by rw [h, e'])
              · omega
          · exact ((((hb.trans (hb5.mono hks)).alloc (by omega) _).alloc (by simp only [World.size_alloc]; omega) _).grown hgrow8 (by simp only [World.size_alloc]; omega) (fun k hk => (hown.lt k hk).1))
        case measure => simp [intOf]; omega
      · have hj : j = j0 + (textT l).length := by
          have h := Hj.out
          rw [preX_all text l (by omega), ← textT_join] at h
          exact h
        obtain ⟨hjs, hsj⟩ := HA2.out.right.get (j := 0) (c := 41) rfl
        simp only [Nat.add_zero] at hjs hsj
        obtain ⟨hjs', hz⟩ : ∃ h : j < s.size, ((s[j]).toNat : Int) = 41 := by
          subst hj
          exact ⟨hjs, by rw [hsj]; rfl⟩
        have Hj' := hid hj
        have hrr := (hb.block w.heap.size hlw).trans hr
        have q0 : wr.cell? ⟨w.heap.size, 0, none⟩ = some (.bool false) := by rw [Lib.cell_of_heap hrr]; rfl
        have q1 : wr.cell? ⟨w.heap.size, 1, none⟩ = some (.int .i64 0) := by rw [Lib.cell_of_heap hrr]; rfl
        have q2 : wr.cell? ⟨w.heap.size, 2, none⟩ = some (.string ⟨#[]⟩) := by rw [Lib.cell_of_heap hrr]; rfl
        have q3 : wr.cell? ⟨w.heap.size, 3, none⟩ = some (.slice none 0 0) := by rw [Lib.cell_of_heap hrr]; rfl
        have z0 : wr.frozen? ⟨w.heap.size, 0, none⟩ = false := Lib.frozen_of_heap hrr 0
        have z1 : wr.frozen? ⟨w.heap.size, 1, none⟩ = false := Lib.frozen_of_heap hrr 1
        have z2 : wr.frozen? ⟨w.heap.size, 2, none⟩ = false := Lib.frozen_of_heap hrr 2
        have z3 : wr.frozen? ⟨w.heap.size, 3, none⟩ = false := Lib.frozen_of_heap hrr 3
        obtain ⟨sl, cap, hu⟩ : ∃ sl cap, u13 = .slice sl k cap := by
          rcases hown.2 with ⟨h, h0⟩ | ⟨g, cap, cur, h, _⟩
          · exact ⟨none, 0, by rw [h, h0]⟩
          · exact ⟨_, _, h⟩
        subst hu
        clear hj hjs hsj hr
        go_wp2_with fail
        refine bodyPost_ret (v := .tuple #[.agg #[.bool false, .int .i64 0, .string nm, .slice sl k cap], .int .i64 ((j : Int) + 1), .bool true]) ?_ rfl ?_
        · rw [results_cell_tmp2 rfl]
          go_simp
        · have e : (j : Int) + 1 = ((i + (text ((some nm, v), l)).length : Nat) : Int) := by
            have h1 := Hj'.out
            have h2 := Hj0.out
            have h3 := size_toList nm
            simp only [text, text1, List.length_append, List.length_cons, List.length_nil]
            omega
          have hfar : ∀ b, w1.heap.size ≤ b → ((((wr.setCell ⟨w.heap.size, 0, none⟩ (.bool false)).setCell ⟨w.heap.size, 1, none⟩ (.int .i64 0)).setCell ⟨w.heap.size, 2, none⟩ (.string nm)).setCell ⟨w.heap.size, 3, none⟩ (.slice sl k cap)).heap[b]? = wr.heap[b]? := fun b hb => by
            rw [Below.heap_setCell _ _ _ b (by show b ≠ w.heap.size; omega), Below.heap_setCell _ _ _ b (by show b ≠ w.heap.size; omega), Below.heap_setCell _ _ _ b (by show b ≠ w.heap.size; omega), Below.heap_setCell _ _ _ b (by show b ≠ w.heap.size; omega)]
          have hsz : ((((wr.setCell ⟨w.heap.size, 0, none⟩ (.bool false)).setCell ⟨w.heap.size, 1, none⟩ (.int .i64 0)).setCell ⟨w.heap.size, 2, none⟩ (.string nm)).setCell ⟨w.heap.size, 3, none⟩ (.slice sl k cap)).heap.size = wr.heap.size := by simp
          have hkl : k = len l := by omega
          have hbF : Below w.heap.size w ((((wr.setCell ⟨w.heap.size, 0, none⟩ (.bool false)).setCell ⟨w.heap.size, 1, none⟩ (.int .i64 0)).setCell ⟨w.heap.size, 2, none⟩ (.string nm)).setCell ⟨w.heap.size, 3, none⟩ (.slice sl k cap)) := (((((hb1.trans (hb.mono (by omega))).setCell (p := ⟨w.heap.size, 0, none⟩) (Nat.le_refl _) _).setCell (p := ⟨w.heap.size, 1, none⟩) (Nat.le_refl _) _).setCell (p := ⟨w.heap.size, 2, none⟩) (Nat.le_refl _) _).setCell (p := ⟨w.heap.size, 3, none⟩) (Nat.le_refl _) _)
          rw [e]
          refine ⟨⟨false, 0, nm, sl, k, cap, rfl, ⟨false, 0, nm, sl, k, cap, rfl, rfl, rfl, rfl, .inr ⟨rfl, rfl, hkl, ?_⟩⟩⟩, hbF⟩
          rcases Nat.eq_zero_or_pos k with h0 | h0
          · exact .inl (by show len l = 0; omega)
          · obtain ⟨g, cap', hv, hg1, hg2⟩ := hown.form h0
            simp only [Value.slice.injEq] at hv
            obtain ⟨rfl, _, rfl⟩ := hv
            refine .inr ⟨g, rfl, by omega, by rw [hsz]; exact hg2, ?_⟩
            have hall := upD_all (ok' := fun b => w1.heap.size ≤ b) Hup.out (by omega) hown (fun b hb => hb.1)
            exact hall.map Keeps (HdD.keep (by rw [hsz]; exact Nat.le_refl _) (fun b hb _ => ⟨by omega, hfar b hb⟩)) (row_of_block (hfar g hg1) 0 4)

end Go.Proofs.Qxb6601988aDoor
