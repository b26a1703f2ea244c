/-
  zzParseFormHB1 on a written formula.
-/
import Derived.Test.Qxb6601988aDoorDecF
namespace Go.Proofs.Qxb6601988aDoor
open Go.RowKit
open Go.Deep (BT)

theorem info45 : (Tryd.prog.info? 45).map (fun i => (i.zero, i.size, i.bytes)) = some (some (.agg #[.int .i64 0, .string ByteArray.empty, .slice none 0 0, .slice none 0 0]), 4, 72) := by kernel_rfl

def ParsedF (x : F1) (i : Nat) (w : World) (e : Ending) (w' : World) : Prop :=
  (∃ op nm sl m cap xl n xcap, e = .returned (.tuple #[.agg #[.int .i64 op, .string nm, .slice sl m cap, .slice xl n xcap], .int .i64 ((i + (ftext x).length : Nat) : Int), .bool true]) ∧
    One (HdE w' (fun b => w.heap.size ≤ b)) x (ds [.int .i64 op, .string nm, .slice sl m cap, .slice xl n xcap])) ∧ Below w.heap.size w w'

set_option maxHeartbeats 4000000 in
set_option maxRecDepth 100000 in
theorem parse11 : ∀ x : F1, ∀ (w : World) (s : ByteArray) (i : Nat), At s i (ftext x) → okF1 x → wfF1 x → s.size ≤ 4194304 →
    Calls Tryd.prog 11 #[.string s, .int .i64 i] w fun e w' => ParsedF x i w e w' := by
  apply ind_one
  rintro ⟨op, sy, sh, args⟩ l ih w s i hat hok hwf hs
  have hat0 : At s i (Lib.itoa op ++ ((nmB sy).data.toList ++ [40] ++ (textT args ++ (textF l ++ [41])))) := by
    rw [nmB_list]
    simpa only [ftext, textF1, List.append_assoc] using hat
  obtain ⟨jn, hjn⟩ : ∃ jn, jn = i + (Lib.itoa op).length := ⟨_, rfl⟩
  have hat1 : At s jn ((nmB sy).data.toList ++ [40] ++ (textT args ++ (textF l ++ [41]))) := by rw [hjn]; exact hat0.right
  have hnF : nameF (nmB sy).data.toList := by
    cases sy with
    | none => exact ⟨fun c hc => by simp [nmB] at hc, fun c hc => by simp [nmB] at hc⟩
    | some nm => exact hok.1 nm rfl
  have hnd : NoDig s jn := fun h => by
    have h1 := hat1.left
    cases hl : (nmB sy).data.toList with
    | nil =>
      rw [hl] at h1
      obtain ⟨_, h2⟩ := h1.get (j := 0) (c := 40) rfl
      have h3 : s[jn] = 40 := h2
      rw [h3]
      decide
    | cons c r =>
      rw [hl] at h1
      obtain ⟨_, h2⟩ := h1.get (j := 0) (c := c) rfl
      have h3 : s[jn] = c := h2
      rw [h3]
      exact hnF.2 c (by rw [hl]; rfl)
  obtain ⟨j0, hj0⟩ : ∃ j0, j0 = jn + (nmB sy).size + 1 := ⟨_, rfl⟩
  have hat2 : At s j0 (textT args ++ (textF l ++ [41])) := by
    have h := hat1.right
    rwa [List.length_append, size_toList, List.length_cons, List.length_nil, ← Nat.add_assoc, ← hj0] at h
  have hla : len args ≤ 4194304 := by
    have h1 := len_le_text args
    rcases Nat.eq_zero_or_pos (textT args).length with h0 | h0
    · omega
    · have h2 := hat2.left.lt (j := (textT args).length - 1) (by omega)
      omega
  have hll : len l ≤ 4194304 := by
    have h1 := len_le_textF l
    rcases Nat.eq_zero_or_pos (textF l).length with h0 | h0
    · omega
    · have h2 := hat2.right.left.lt (j := (textF l).length - 1) (by omega)
      omega
  have HA0 := hid (And.intro hat0.left (hjn ▸ hnd))
  have HA1 := hid (And.intro hat1.left hnF.1)
  have HA2 := hid hat2
  have Hjn := hid hjn
  have Hj0 := hid hj0
  have Hi := hid ih
  have Hok := hid hok
  have Hwf := hid hwf
  have hw : wfI op := hwf.1
  have hjns : jn < s.size := by
    have h := hat1.left.lt (j := 0) (by simp)
    omega
  clear ih hat hok hwf hat0 hat1 hat2 hnF hnd hjn hj0
  go_enter Tryd.func11, Tryd.ntmps11
  go_wp2_with (first
    | (go_at_call 21; refine (int21 s i op hw HA0.out.1 HA0.out.2 (by omega) _).mono ?_; rintro e w5 ⟨rfl, rfl⟩; rw [← Hjn.out])
    | (go_at_call 22; refine (name22 s (nmB sy) jn HA1.out.1 HA1.out.2 (by omega) _).mono ?_; rintro e w5 ⟨rfl, rfl⟩; rw [← Hj0.out]))
  have hb1 := box_below w (.cells #[.int .i64 0, .string ⟨#[]⟩, .slice none 0 0, .slice none 0 0] 45)
  have hr : (w.alloc (.cells #[.int .i64 0, .string ⟨#[]⟩, .slice none 0 0, .slice none 0 0] 45)).heap[w.heap.size]? = some (.cells #[.int .i64 0, .string ⟨#[]⟩, .slice none 0 0, .slice none 0 0] 45 (0, 0)) := heap_alloc_new _ _
  have hs1 : (w.alloc (.cells #[.int .i64 0, .string ⟨#[]⟩, .slice none 0 0, .slice none 0 0] 45)).heap.size = w.heap.size + 1 := by simp
  generalize (w.alloc (.cells #[.int .i64 0, .string ⟨#[]⟩, .slice none 0 0, .slice none 0 0] 45)) = w1 at *
  have Hs1 := hid hs1
  have hlw : w.heap.size < w1.heap.size := by omega
  clear hs1
  go_loopw [8, 13, 14] (fun jv va vx ws => ∃ (ka kx j : Nat) (fa fx : List Value), ka ≤ len args ∧ kx ≤ len l ∧ Hid (ka < len args → kx = 0 ∧ vx = .slice none 0 0) ∧ Hid (j = j0 + (preX text args ka).length + (preX ftext l kx).length) ∧ jv = .int .i64 j ∧
      ws.ownsRow w1.heap.size 70 4 va ka fa ∧ ws.ownsRow w1.heap.size 45 4 vx kx fx ∧ Hid (∀ g, va.ownBlock = some g → vx.ownBlock ≠ some g) ∧
      Hid (upD ws (fun b => w1.heap.size ≤ b ∧ va.ownBlock ≠ some b ∧ vx.ownBlock ≠ some b) args ka fa) ∧ Hid (upE ws (fun b => w1.heap.size ≤ b ∧ va.ownBlock ≠ some b ∧ vx.ownBlock ≠ some b) l kx fx) ∧ Below w1.heap.size w1 ws) (fun jv _ _ _ => s.size + 1 - (intOf jv).toNat)
  case atStart => exact ⟨0, 0, j0, [], [], Nat.zero_le _, Nat.zero_le _, fun _ => ⟨rfl, rfl⟩, by rw [preX_zero, preX_zero]; rfl, rfl, World.ownsRow_nil _ _ _ _, World.ownsRow_nil _ _ _ _, (fun g h => by cases h), upD_zero _ _ _ _, upE_zero _ _ _ _, Below.refl _ _⟩
  case round =>
    obtain ⟨ka, kx, j, fa, fx, hka, hkx, Hph, Hj, rfl, hownA, hownX, Hap, HupA, HupX, hb⟩ := hrel
    have hks := hb.size
    by_cases hlt : ka < len args
    · obtain ⟨rfl, rfl⟩ := Hph.out hlt
      obtain ⟨y, hy⟩ := toL_at hlt
      obtain ⟨r', hr'⟩ := preX_at text hy
      have hj : j = j0 + (preX text args ka).length := by have h := Hj.out; rw [preX_zero] at h; simpa using h
      have hAt : At s j (text y ++ ([44] ++ r')) := by
        have h := HA2.out.left
        rw [textT_join, hr'] at h
        have h2 := h.right
        rwa [← hj] at h2
      have hAt' : At s j (text y ++ [44]) := by
        rw [← List.append_assoc] at hAt
        exact hAt.left
      have hoky : ok1 y := (okT_iff args).1 Hok.out.2.1 ka y hy
      have hwfy : wf1 y := wfT_get Hwf.out.2.1 hy
      obtain ⟨cy, ry, hcy, hcy41, hcyd, hcy45, _⟩ := text_head y hoky
      obtain ⟨hjs, hsj⟩ := hAt'.left.get (j := 0) (c := cy) (by rw [hcy]; rfl)
      simp only [Nat.add_zero] at hjs hsj
      have hz41 : (((s[j]).toNat : Int) == 41) = false := by
        rw [hsj, beq_eq_false_iff_ne]
        omega
      have hz45 : (((s[j]).toNat : Int) == 45) = false := by
        rw [hsj, beq_eq_false_iff_ne]
        omega
      have hzd : ¬ (48 ≤ (s[j]).toNat ∧ (s[j]).toNat ≤ 57) := by rw [hsj]; exact hcyd
      obtain ⟨j5, hj5⟩ : ∃ j5, j5 = j + (text y).length := ⟨_, rfl⟩
      have hjj : j < j5 := by rw [hj5, hcy]; simp
      obtain ⟨hj5s, hsj5⟩ : ∃ h : j5 < s.size, s[j5] = 44 := by
        obtain ⟨h1, h2⟩ := hAt'.right.get (j := 0) (c := 44) rfl
        subst hj5
        exact ⟨by omega, h2⟩
      have hz44 : ((s[j5]).toNat : Int) = 44 := by rw [hsj5]; rfl
      have HAt := hid hAt'
      have Hy := hid hy
      have Hoky := hid hoky
      have Hwfy := hid hwfy
      have Hj5 := hid hj5
      have Hjj := hid hj
      obtain ⟨i0, hi', hi0, hi1, hi2⟩ := info_parts info70
      clear hr' hAt hAt' hoky hwfy hcy hsj hj5 hsj5 hy hj hcy41 hcyd hcy45
      by_cases h48 : (s[j]).toNat < 48
      · go_wp2_with (first
          | (go_at_call 23; refine (parse23 y _ s j HAt.out Hoky.out Hwfy.out hs).mono ?_; rintro e w5 ⟨⟨bv, v5, nm5, sl5, m5, cap5, rfl, h5⟩, hb5⟩; rw [← Hj5.out]; have H5 := hid h5; have hb5s := hb5.size; clear h5)
          | (at_builtin; refine wpList_append_lies _ rfl _ _ 42 rfl w1.heap.size 70 i0 _ 4 56 Tryd.underlying42 hi' hi0 hi1 hi2 rfl (by decide) u13 ka fa rfl (((owns_below hownA hb5).alloc _).alloc _) ⟨w5.heap.size + 1, 0, none⟩ 1 1 [.bool bv, .int .i64 v5, .string nm5, .slice sl5 m5 cap5] rfl rfl ?c1 ?c2 (by decide) ?c3 ?c4 ?c5 (w5.heap.size + 1 + 1) ?c6 ?_))
        case c1 => exact World.news_of_block (by have h := heap_alloc_new (w5.alloc (.cells #[.bool bv, .int .i64 v5, .string nm5, .slice sl5 m5 cap5] 70)) (.cells #[.bool bv, .int .i64 v5, .string nm5, .slice sl5 m5 cap5] 70); rwa [World.size_alloc] at h)
        case c2 =>
          intro u hu
          simp only [List.mem_cons, List.not_mem_nil, or_false] at hu
          rcases hu with rfl | rfl | rfl | rfl <;> rfl
        case c3 => unfold maxLen; omega
        case c4 => omega
        case c5 => simp only [World.size_alloc]; omega
        case c6 => simp only [World.size_alloc]
        intro g8 cap8 w8 hown8 hgrow8 hat8 hlt8
        go_wp2_with fail
        have hold : ∀ b, b < w5.heap.size → u13.ownBlock ≠ some b → w8.heap[b]? = w5.heap[b]? := fun b hb hne => by
          rw [hgrow8.block b (by simp only [World.size_alloc]; omega) (fun e => hne e.symm), Below.heap_alloc _ _ b (by simp only [World.size_alloc]; omega), Below.heap_alloc _ _ b hb]
        have hs8 : w5.heap.size ≤ w8.heap.size := by
          have h := hgrow8.size
          simp only [World.size_alloc] at h
          omega
        go_roundw
        case rel =>
          refine ⟨ka + 1, 0, j5 + 1, fa ++ [.bool bv, .int .i64 v5, .string nm5, .slice sl5 m5 cap5], [], hlt, Nat.zero_le _, fun _ => ⟨rfl, rfl⟩, ?_, by go_num, hown8, World.ownsRow_nil _ _ _ _, (fun g _ h => by cases h), ?_, upE_zero _ _ _ _, ?_⟩
          · have h1 := Hjj.out
            have h2 := Hj5.out
            show j5 + 1 = j0 + (preX text args (ka + 1)).length + (preX ftext l 0).length
            rw [preX_succ text Hy.out, preX_zero]
            simp only [List.length_append, List.length_cons, List.length_nil]
            omega
          · refine upD_succ HupA.out hownA.1 (by omega) (fun b hb hbl => ?_) Hy.out ?_
            · refine ⟨⟨hb.1, fun e => ?_, (fun e => by cases e)⟩, (hold b (by omega) hb.2.1).trans (hb5.block b hbl)⟩
              have e' : g8 = b := by simpa [Value.ownBlock] using e
              rcases hat8 with h | h
              · exact hb.2.1 (by rw [h, e'])
              · omega
            · refine oneD_keep hs8 (fun b hb hbl => ?_) (keeps_refl _) H5.out
              have hne : u13.ownBlock ≠ some b := fun e => by
                have := (hownA.lt b e).2
                omega
              refine ⟨⟨by omega, fun e => ?_, (fun e => by cases e)⟩, hold b hbl hne⟩
              have e' : g8 = b := by simpa [Value.ownBlock] using e
              rcases hat8 with h | h
              · exact hne (by rw [h, e'])
              · omega
          · exact ((((hb.trans (hb5.mono hks)).alloc (by omega) _).alloc (by simp only [World.size_alloc]; omega) _).grown hgrow8 (by simp only [World.size_alloc]; omega) (fun k hk => (hownA.lt k hk).1))
        case measure => simp [intOf]; omega
      · have h57' : 57 < (s[j]).toNat := by omega
        go_wp2_with (first
          | (go_at_call 23; refine (parse23 y _ s j HAt.out Hoky.out Hwfy.out hs).mono ?_; rintro e w5 ⟨⟨bv, v5, nm5, sl5, m5, cap5, rfl, h5⟩, hb5⟩; rw [← Hj5.out]; have H5 := hid h5; have hb5s := hb5.size; clear h5)
          | (at_builtin; refine wpList_append_lies _ rfl _ _ 42 rfl w1.heap.size 70 i0 _ 4 56 Tryd.underlying42 hi' hi0 hi1 hi2 rfl (by decide) u13 ka fa rfl (((owns_below hownA hb5).alloc _).alloc _) ⟨w5.heap.size + 1, 0, none⟩ 1 1 [.bool bv, .int .i64 v5, .string nm5, .slice sl5 m5 cap5] rfl rfl ?c1 ?c2 (by decide) ?c3 ?c4 ?c5 (w5.heap.size + 1 + 1) ?c6 ?_))
        case c1 => exact World.news_of_block (by have h := heap_alloc_new (w5.alloc (.cells #[.bool bv, .int .i64 v5, .string nm5, .slice sl5 m5 cap5] 70)) (.cells #[.bool bv, .int .i64 v5, .string nm5, .slice sl5 m5 cap5] 70); rwa [World.size_alloc] at h)
        case c2 =>
          intro u hu
          simp only [List.mem_cons, List.not_mem_nil, or_false] at hu
          rcases hu with rfl | rfl | rfl | rfl <;> rfl
        case c3 => unfold maxLen; omega
        case c4 => omega
        case c5 => simp only [World.size_alloc]; omega
        case c6 => simp only [World.size_alloc]
        intro g8 cap8 w8 hown8 hgrow8 hat8 hlt8
        go_wp2_with fail
        have hold : ∀ b, b < w5.heap.size → u13.ownBlock ≠ some b → w8.heap[b]? = w5.heap[b]? := fun b hb hne => by
          rw [hgrow8.block b (by simp only [World.size_alloc]; omega) (fun e => hne e.symm), Below.heap_alloc _ _ b (by simp only [World.size_alloc]; omega), Below.heap_alloc _ _ b hb]
        have hs8 : w5.heap.size ≤ w8.heap.size := by
          have h := hgrow8.size
          simp only [World.size_alloc] at h
          omega
        go_roundw
        case rel =>
          refine ⟨ka + 1, 0, j5 + 1, fa ++ [.bool bv, .int .i64 v5, .string nm5, .slice sl5 m5 cap5], [], hlt, Nat.zero_le _, fun _ => ⟨rfl, rfl⟩, ?_, by go_num, hown8, World.ownsRow_nil _ _ _ _, (fun g _ h => by cases h), ?_, upE_zero _ _ _ _, ?_⟩
          · have h1 := Hjj.out
            have h2 := Hj5.out
            show j5 + 1 = j0 + (preX text args (ka + 1)).length + (preX ftext l 0).length
            rw [preX_succ text Hy.out, preX_zero]
            simp only [List.length_append, List.length_cons, List.length_nil]
            omega
          · refine upD_succ HupA.out hownA.1 (by omega) (fun b hb hbl => ?_) Hy.out ?_
            · refine ⟨⟨hb.1, fun e => ?_, (fun e => by cases e)⟩, (hold b (by omega) hb.2.1).trans (hb5.block b hbl)⟩
              have e' : g8 = b := by simpa [Value.ownBlock] using e
              rcases hat8 with h | h
              · exact hb.2.1 (by rw [h, e'])
              · omega
            · refine oneD_keep hs8 (fun b hb hbl => ?_) (keeps_refl _) H5.out
              have hne : u13.ownBlock ≠ some b := fun e => by
                have := (hownA.lt b e).2
                omega
              refine ⟨⟨by omega, fun e => ?_, (fun e => by cases e)⟩, hold b hbl hne⟩
              have e' : g8 = b := by simpa [Value.ownBlock] using e
              rcases hat8 with h | h
              · exact hne (by rw [h, e'])
              · omega
          · exact ((((hb.trans (hb5.mono hks)).alloc (by omega) _).alloc (by simp only [World.size_alloc]; omega) _).grown hgrow8 (by simp only [World.size_alloc]; omega) (fun k hk => (hownA.lt k hk).1))
        case measure => simp [intOf]; omega
    · have hkal : ka = len args := by omega
      by_cases hltx : kx < len l
      · obtain ⟨y, hy⟩ := toL_at hltx
        obtain ⟨r', hr'⟩ := preX_at ftext hy
        have hj : j = j0 + (textT args).length + (preX ftext l kx).length := by
          have h := Hj.out
          rw [preX_all text args (by omega), ← textT_join] at h
          exact h
        have hAt : At s j (ftext y ++ ([44] ++ r')) := by
          have h := HA2.out.right.left
          rw [textF_join, hr'] at h
          have h2 := h.right
          rwa [← hj] at h2
        have hoky : okF1 y := (okF_iff l).1 Hok.out.2.2 kx y hy
        have hwfy : wfF1 y := wfF_get Hwf.out.2.2 hy
        obtain ⟨cy, ry, hcy, hcy41, hcyd⟩ := ftext_head y hwfy
        obtain ⟨hjs, hsj⟩ := hAt.left.get (j := 0) (c := cy) (by rw [hcy]; rfl)
        simp only [Nat.add_zero] at hjs hsj
        have hz41 : (((s[j]).toNat : Int) == 41) = false := by
          rw [hsj, beq_eq_false_iff_ne]
          omega
        have hzd : (48 ≤ (s[j]).toNat ∧ (s[j]).toNat ≤ 57) ∨ (s[j]).toNat = 45 := by rw [hsj]; exact hcyd
        obtain ⟨j5, hj5⟩ : ∃ j5, j5 = j + (ftext y).length := ⟨_, rfl⟩
        have hjj : j < j5 := by rw [hj5, hcy]; simp
        obtain ⟨hj5s, hsj5⟩ : ∃ h : j5 < s.size, s[j5] = 44 := by
          obtain ⟨h1, h2⟩ := hAt.right.left.get (j := 0) (c := 44) rfl
          subst hj5
          exact ⟨by omega, h2⟩
        have hz44 : ((s[j5]).toNat : Int) = 44 := by rw [hsj5]; rfl
        have HAt := hid hAt.left
        have Hy := hid hy
        have Hoky := hid hoky
        have Hwfy := hid hwfy
        have Hj5 := hid hj5
        have Hjj := hid hj
        obtain ⟨i0, hi', hi0, hi1, hi2⟩ := info_parts info45
        clear hr' hAt hoky hwfy hcy hsj hj5 hsj5 hy hj hcy41 hcyd
        rcases hzd with ⟨hd1, hd2⟩ | hd
        · go_wp2_with (first
            | (go_at_call 11; refine (Hi.out kx y Hy.out _ s j HAt.out Hoky.out Hwfy.out hs).mono ?_; rintro e w5 ⟨⟨op5, nm5, sl5, m5, cap5, xl5, n5, xcap5, rfl, h5⟩, hb5⟩; rw [← Hj5.out]; have H5 := hid h5; have hb5s := hb5.size; clear h5)
            | (at_builtin; refine wpList_append_lies _ rfl _ _ 43 rfl w1.heap.size 45 i0 _ 4 72 Tryd.underlying43 hi' hi0 hi1 hi2 rfl (by decide) u14 kx fx rfl (((owns_below hownX hb5).alloc _).alloc _) ⟨w5.heap.size + 1, 0, none⟩ 1 1 [.int .i64 op5, .string nm5, .slice sl5 m5 cap5, .slice xl5 n5 xcap5] rfl rfl ?c1 ?c2 (by decide) ?c3 ?c4 ?c5 (w5.heap.size + 1 + 1) ?c6 ?_))
          case c1 => exact World.news_of_block (by have h := heap_alloc_new (w5.alloc (.cells #[.int .i64 op5, .string nm5, .slice sl5 m5 cap5, .slice xl5 n5 xcap5] 45)) (.cells #[.int .i64 op5, .string nm5, .slice sl5 m5 cap5, .slice xl5 n5 xcap5] 45); rwa [World.size_alloc] at h)
          case c2 =>
            intro u hu
            simp only [List.mem_cons, List.not_mem_nil, or_false] at hu
            rcases hu with rfl | rfl | rfl | rfl <;> rfl
          case c3 => unfold maxLen; omega
          case c4 => omega
          case c5 => simp only [World.size_alloc]; omega
          case c6 => simp only [World.size_alloc]
          intro g8 cap8 w8 hown8 hgrow8 hat8 hlt8
          go_wp2_with fail
          have hold : ∀ b, b < w5.heap.size → u14.ownBlock ≠ some b → w8.heap[b]? = w5.heap[b]? := fun b hb hne => by
            rw [hgrow8.block b (by simp only [World.size_alloc]; omega) (fun e => hne e.symm), Below.heap_alloc _ _ b (by simp only [World.size_alloc]; omega), Below.heap_alloc _ _ b hb]
          have hs8 : w5.heap.size ≤ w8.heap.size := by
            have h := hgrow8.size
            simp only [World.size_alloc] at h
            omega
          have hstep : ∀ b, (w1.heap.size ≤ b ∧ u13.ownBlock ≠ some b ∧ u14.ownBlock ≠ some b) → b < wr.heap.size → (w1.heap.size ≤ b ∧ u13.ownBlock ≠ some b ∧ (Value.slice (some ⟨g8, 0, none⟩) (kx + 1) cap8).ownBlock ≠ some b) ∧ w8.heap[b]? = wr.heap[b]? := fun b hb hbl => by
            refine ⟨⟨hb.1, hb.2.1, fun e => ?_⟩, (hold b (by omega) hb.2.2).trans (hb5.block b hbl)⟩
            have e' : g8 = b := by simpa [Value.ownBlock] using e
            rcases hat8 with h | h
            · exact hb.2.2 (by rw [h, e'])
            · omega
          have hap8 : ∀ g, u13.ownBlock = some g → (Value.slice (some ⟨g8, 0, none⟩) (kx + 1) cap8).ownBlock ≠ some g := fun g hg e => by
            have e' : g8 = g := by simpa [Value.ownBlock] using e
            rcases hat8 with h | h
            · exact Hap.out g hg (by rw [h, e'])
            · have := (hownA.lt g hg).2
              omega
          have hownA8 : w8.ownsRow w1.heap.size 70 4 u13 ka fa := by
            refine (((owns_below hownA hb5).alloc _).alloc _).kept hgrow8 ?_
            cases hv : u13.ownBlock with
            | none => exact .inl rfl
            | some g => exact .inr (fun e => Hap.out g hv e.symm)
          go_roundw
          case rel =>
            refine ⟨ka, kx + 1, j5 + 1, fa, fx ++ [.int .i64 op5, .string nm5, .slice sl5 m5 cap5, .slice xl5 n5 xcap5], hka, hltx, fun h => absurd h hlt, ?_, by go_num, hownA8, hown8, hap8, upD_keep HupA.out (by omega) hstep, ?_, ?_⟩
            · have h1 := Hjj.out
              have h2 := Hj5.out
              show j5 + 1 = j0 + (preX text args ka).length + (preX ftext l (kx + 1)).length
              rw [preX_succ ftext Hy.out, preX_all text args (by omega), ← textT_join]
              simp only [List.length_append, List.length_cons, List.length_nil]
              omega
            · refine upE_succ HupX.out hownX.1 (by omega) hstep Hy.out ?_
              refine oneE_keep hs8 (fun b hb hbl => ?_) (keeps_refl _) H5.out
              have hne : u14.ownBlock ≠ some b := fun e => by
                have := (hownX.lt b e).2
                omega
              have hne3 : u13.ownBlock ≠ some b := fun e => by
                have := (hownA.lt b e).2
                omega
              refine ⟨⟨by omega, hne3, fun e => ?_⟩, hold b hbl hne⟩
              have e' : g8 = b := by simpa [Value.ownBlock] using e
              rcases hat8 with h | h
              · exact hne (by rw [h, e'])
              · omega
            · exact ((((hb.trans (hb5.mono hks)).alloc (by omega) _).alloc (by simp only [World.size_alloc]; omega) _).grown hgrow8 (by simp only [World.size_alloc]; omega) (fun k hk => (hownX.lt k hk).1))
          case measure => simp [intOf]; omega
        · have hzi : ((s[j]).toNat : Int) = 45 := by omega
          go_wp2_with (first
            | (go_at_call 11; refine (Hi.out kx y Hy.out _ s j HAt.out Hoky.out Hwfy.out hs).mono ?_; rintro e w5 ⟨⟨op5, nm5, sl5, m5, cap5, xl5, n5, xcap5, rfl, h5⟩, hb5⟩; rw [← Hj5.out]; have H5 := hid h5; have hb5s := hb5.size; clear h5)
            | (at_builtin; refine wpList_append_lies _ rfl _ _ 43 rfl w1.heap.size 45 i0 _ 4 72 Tryd.underlying43 hi' hi0 hi1 hi2 rfl (by decide) u14 kx fx rfl (((owns_below hownX hb5).alloc _).alloc _) ⟨w5.heap.size + 1, 0, none⟩ 1 1 [.int .i64 op5, .string nm5, .slice sl5 m5 cap5, .slice xl5 n5 xcap5] rfl rfl ?c1 ?c2 (by decide) ?c3 ?c4 ?c5 (w5.heap.size + 1 + 1) ?c6 ?_))
          case c1 => exact World.news_of_block (by have h := heap_alloc_new (w5.alloc (.cells #[.int .i64 op5, .string nm5, .slice sl5 m5 cap5, .slice xl5 n5 xcap5] 45)) (.cells #[.int .i64 op5, .string nm5, .slice sl5 m5 cap5, .slice xl5 n5 xcap5] 45); rwa [World.size_alloc] at h)
          case c2 =>
            intro u hu
            simp only [List.mem_cons, List.not_mem_nil, or_false] at hu
            rcases hu with rfl | rfl | rfl | rfl <;> rfl
          case c3 => unfold maxLen; omega
          case c4 => omega
          case c5 => simp only [World.size_alloc]; omega
          case c6 => simp only [World.size_alloc]
          intro g8 cap8 w8 hown8 hgrow8 hat8 hlt8
          go_wp2_with fail
          have hold : ∀ b, b < w5.heap.size → u14.ownBlock ≠ some b → w8.heap[b]? = w5.heap[b]? := fun b hb hne => by
            rw [hgrow8.block b (by simp only [World.size_alloc]; omega) (fun e => hne e.symm), Below.heap_alloc _ _ b (by simp only [World.size_alloc]; omega), Below.heap_alloc _ _ b hb]
          have hs8 : w5.heap.size ≤ w8.heap.size := by
            have h := hgrow8.size
            simp only [World.size_alloc] at h
            omega
          have hstep : ∀ b, (w1.heap.size ≤ b ∧ u13.ownBlock ≠ some b ∧ u14.ownBlock ≠ some b) → b < wr.heap.size → (w1.heap.size ≤ b ∧ u13.ownBlock ≠ some b ∧ (Value.slice (some ⟨g8, 0, none⟩) (kx + 1) cap8).ownBlock ≠ some b) ∧ w8.heap[b]? = wr.heap[b]? := fun b hb hbl => by
            refine ⟨⟨hb.1, hb.2.1, fun e => ?_⟩, (hold b (by omega) hb.2.2).trans (hb5.block b hbl)⟩
            have e' : g8 = b := by simpa [Value.ownBlock] using e
            rcases hat8 with h | h
            · exact hb.2.2 (by rw [h, e'])
            · omega
          have hap8 : ∀ g, u13.ownBlock = some g → (Value.slice (some ⟨g8, 0, none⟩) (kx + 1) cap8).ownBlock ≠ some g := fun g hg e => by
            have e' : g8 = g := by simpa [Value.ownBlock] using e
            rcases hat8 with h | h
            · exact Hap.out g hg (by rw [h, e'])
            · have := (hownA.lt g hg).2
              omega
          have hownA8 : w8.ownsRow w1.heap.size 70 4 u13 ka fa := by
            refine (((owns_below hownA hb5).alloc _).alloc _).kept hgrow8 ?_
            cases hv : u13.ownBlock with
            | none => exact .inl rfl
            | some g => exact .inr (fun e => Hap.out g hv e.symm)
          go_roundw
          case rel =>
            refine ⟨ka, kx + 1, j5 + 1, fa, fx ++ [.int .i64 op5, .string nm5, .slice sl5 m5 cap5, .slice xl5 n5 xcap5], hka, hltx, fun h => absurd h hlt, ?_, by go_num, hownA8, hown8, hap8, upD_keep HupA.out (by omega) hstep, ?_, ?_⟩
            · have h1 := Hjj.out
              have h2 := Hj5.out
              show j5 + 1 = j0 + (preX text args ka).length + (preX ftext l (kx + 1)).length
              rw [preX_succ ftext Hy.out, preX_all text args (by omega), ← textT_join]
              simp only [List.length_append, List.length_cons, List.length_nil]
              omega
            · refine upE_succ HupX.out hownX.1 (by omega) hstep Hy.out ?_
              refine oneE_keep hs8 (fun b hb hbl => ?_) (keeps_refl _) H5.out
              have hne : u14.ownBlock ≠ some b := fun e => by
                have := (hownX.lt b e).2
                omega
              have hne3 : u13.ownBlock ≠ some b := fun e => by
                have := (hownA.lt b e).2
                omega
              refine ⟨⟨by omega, hne3, fun e => ?_⟩, hold b hbl hne⟩
              have e' : g8 = b := by simpa [Value.ownBlock] using e
              rcases hat8 with h | h
              · exact hne (by rw [h, e'])
              · omega
            · exact ((((hb.trans (hb5.mono hks)).alloc (by omega) _).alloc (by simp only [World.size_alloc]; omega) _).grown hgrow8 (by simp only [World.size_alloc]; omega) (fun k hk => (hownX.lt k hk).1))
          case measure => simp [intOf]; omega
      · have hj : j = j0 + (textT args).length + (textF l).length := by
          have h := Hj.out
          rw [preX_all text args (by omega), ← textT_join, preX_all ftext l (by omega), ← textF_join] at h
          exact h
        obtain ⟨hjs, hsj⟩ := HA2.out.right.right.get (j := 0) (c := 41) rfl
        simp only [Nat.add_zero] at hjs hsj
        obtain ⟨hjs', hz⟩ : ∃ h : j < s.size, ((s[j]).toNat : Int) = 41 := by
          subst hj
          exact ⟨hjs, by rw [hsj]; rfl⟩
        have Hj' := hid hj
        have hrr := (hb.block w.heap.size hlw).trans hr
        have q0 : wr.cell? ⟨w.heap.size, 0, none⟩ = some (.int .i64 0) := by rw [Lib.cell_of_heap hrr]; rfl
        have q1 : wr.cell? ⟨w.heap.size, 1, none⟩ = some (.string ⟨#[]⟩) := by rw [Lib.cell_of_heap hrr]; rfl
        have q2 : wr.cell? ⟨w.heap.size, 2, none⟩ = some (.slice none 0 0) := by rw [Lib.cell_of_heap hrr]; rfl
        have q3 : wr.cell? ⟨w.heap.size, 3, none⟩ = some (.slice none 0 0) := by rw [Lib.cell_of_heap hrr]; rfl
        have z0 : wr.frozen? ⟨w.heap.size, 0, none⟩ = false := Lib.frozen_of_heap hrr 0
        have z1 : wr.frozen? ⟨w.heap.size, 1, none⟩ = false := Lib.frozen_of_heap hrr 1
        have z2 : wr.frozen? ⟨w.heap.size, 2, none⟩ = false := Lib.frozen_of_heap hrr 2
        have z3 : wr.frozen? ⟨w.heap.size, 3, none⟩ = false := Lib.frozen_of_heap hrr 3
        obtain ⟨sl, cap, hu⟩ : ∃ sl cap, u13 = .slice sl ka cap := by
          rcases hownA.2 with ⟨h, h0⟩ | ⟨g, cap, cur, h, _⟩
          · exact ⟨none, 0, by rw [h, h0]⟩
          · exact ⟨_, _, h⟩
        obtain ⟨xl, xcap, hu'⟩ : ∃ xl xcap, u14 = .slice xl kx xcap := by
          rcases hownX.2 with ⟨h, h0⟩ | ⟨g, cap, cur, h, _⟩
          · exact ⟨none, 0, by rw [h, h0]⟩
          · exact ⟨_, _, h⟩
        subst hu
        subst hu'
        clear hj hjs hsj hr
        go_wp2_with fail
        refine bodyPost_ret (v := .tuple #[.agg #[.int .i64 op, .string (nmB sy), .slice sl ka cap, .slice xl kx xcap], .int .i64 ((j : Int) + 1), .bool true]) ?_ rfl ?_
        · rw [results_cell_tmp2 rfl]
          go_simp
        · have e : (j : Int) + 1 = ((i + (ftext ((op, sy, sh, args), l)).length : Nat) : Int) := by
            have h1 := Hj'.out
            have h2 := Hj0.out
            have h4 := Hjn.out
            have h3 := size_toList (nmB sy)
            rw [nmB_list] at h3
            simp only [ftext, textF1, List.length_append, List.length_cons, List.length_nil]
            omega
          have hfar : ∀ b, w1.heap.size ≤ b → ((((wr.setCell ⟨w.heap.size, 0, none⟩ (.int .i64 op)).setCell ⟨w.heap.size, 1, none⟩ (.string (nmB sy))).setCell ⟨w.heap.size, 2, none⟩ (.slice sl ka cap)).setCell ⟨w.heap.size, 3, none⟩ (.slice xl kx xcap)).heap[b]? = wr.heap[b]? := fun b hb => by
            rw [Below.heap_setCell _ _ _ b (by show b ≠ w.heap.size; omega), Below.heap_setCell _ _ _ b (by show b ≠ w.heap.size; omega), Below.heap_setCell _ _ _ b (by show b ≠ w.heap.size; omega), Below.heap_setCell _ _ _ b (by show b ≠ w.heap.size; omega)]
          have hsz : ((((wr.setCell ⟨w.heap.size, 0, none⟩ (.int .i64 op)).setCell ⟨w.heap.size, 1, none⟩ (.string (nmB sy))).setCell ⟨w.heap.size, 2, none⟩ (.slice sl ka cap)).setCell ⟨w.heap.size, 3, none⟩ (.slice xl kx xcap)).heap.size = wr.heap.size := by simp
          have hbF : Below w.heap.size w ((((wr.setCell ⟨w.heap.size, 0, none⟩ (.int .i64 op)).setCell ⟨w.heap.size, 1, none⟩ (.string (nmB sy))).setCell ⟨w.heap.size, 2, none⟩ (.slice sl ka cap)).setCell ⟨w.heap.size, 3, none⟩ (.slice xl kx xcap)) := (((((hb1.trans (hb.mono (by omega))).setCell (p := ⟨w.heap.size, 0, none⟩) (Nat.le_refl _) _).setCell (p := ⟨w.heap.size, 1, none⟩) (Nat.le_refl _) _).setCell (p := ⟨w.heap.size, 2, none⟩) (Nat.le_refl _) _).setCell (p := ⟨w.heap.size, 3, none⟩) (Nat.le_refl _) _)
          have hkxl : kx = len l := by omega
          subst hkal
          subst hkxl
          rw [e]
          refine ⟨⟨op, nmB sy, sl, len args, cap, xl, len l, xcap, rfl, ⟨sl, len args, cap, xl, xcap, rfl, rfl, rfl, rfl, ⟨rfl, ?_⟩, ?_⟩⟩, hbF⟩
          · rcases Nat.eq_zero_or_pos (len args) with h0 | h0
            · exact .inl h0
            · obtain ⟨g, cap', hv, hg1, hg2⟩ := hownA.form h0
              simp only [Value.slice.injEq] at hv
              obtain ⟨rfl, _, rfl⟩ := hv
              refine .inr ⟨g, rfl, by omega, by rw [hsz]; exact hg2, ?_⟩
              have hall := upD_all (ok' := fun b => w1.heap.size ≤ b) HupA.out (Nat.le_refl _) hownA (fun b hb => hb.1)
              exact hall.map Keeps (HdD.keep (by rw [hsz]; exact Nat.le_refl _) (fun b hb _ => ⟨by omega, hfar b hb⟩)) (row_of_block (hfar g hg1) 0 4)
          · rcases Nat.eq_zero_or_pos (len l) with h0 | h0
            · exact .inl h0
            · obtain ⟨g, cap', hv, hg1, hg2⟩ := hownX.form h0
              simp only [Value.slice.injEq] at hv
              obtain ⟨rfl, _, rfl⟩ := hv
              refine .inr ⟨g, rfl, by omega, by rw [hsz]; exact hg2, ?_⟩
              have hall := upE_all (ok' := fun b => w1.heap.size ≤ b) HupX.out (Nat.le_refl _) hownX (fun b hb => hb.1)
              exact hall.map Keeps (HdE.keep (by rw [hsz]; exact Nat.le_refl _) (fun b hb _ => ⟨by omega, hfar b hb⟩)) (row_of_block (hfar g hg1) 0 4)

end Go.Proofs.Qxb6601988aDoor
