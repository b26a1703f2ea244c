/-
  (*graph).cycle, walked.
-/
import Derived.Test.Qxb6601988aPath
import Derived.Test.Qxb6601988aPlace
import Derived.Test.Qxb6601988aCyc
import Derived.RegionTactic
import Derived.BigRegion
import Derived.Deep.AppendLies
import Derived.Deep.RegionLaw
namespace Go.Proofs.Qxb6601988a
open Go.RowKit Go.Proofs.Qxb6601988a.Bfs

/-- The edges of the cycle p, three cells each. -/
def edgeL (f : Int → Int → Option ByteArray) (q : Nat) (p : List Int) (k : Nat) : List Value :=
  [.pointer (some ⟨q + (p.getD k 0).toNat, 0, none⟩), .pointer (some ⟨q + (p.getD ((k + 1) % p.length) 0).toNat, 0, none⟩), .string ((f (p.getD k 0) (p.getD ((k + 1) % p.length) 0)).getD ByteArray.empty)]

def edgesL (f : Int → Int → Option ByteArray) (q : Nat) (p : List Int) (m : Nat) : List Value := (List.range m).flatMap (edgeL f q p)

theorem edgesL_length (f : Int → Int → Option ByteArray) (q : Nat) (p : List Int) (m : Nat) : (edgesL f q p m).length = m * 3 := by
  unfold edgesL
  induction m with
  | zero => rfl
  | succ m ih => rw [List.range_succ, List.flatMap_append, List.length_append, ih]; simp [edgeL]; omega

theorem edgesL_succ (f : Int → Int → Option ByteArray) (q : Nat) (p : List Int) (m : Nat) : edgesL f q p (m + 1) = edgesL f q p m ++ edgeL f q p m := by
  simp [edgesL, List.range_succ]

theorem Try.info49 : (Try.prog.info? 49).map (fun i => (i.zero, i.size, i.bytes)) = some (some (.agg #[.pointer none, .pointer none, .string ByteArray.empty]), 3, 32) := by kernel_rfl

/-- 'edges[{i, j}]', as a run. -/
theorem run_look_e1 (w : World) {b n : Nat} {f : Int → Int → Option ByteArray} (h : EMap w b n f) (i j : Int) (hi : (Lit.int .i64 i).wf = true) (hj : (Lit.int .i64 j).wf = true) :
    (Instr.lookup 30 (.map (some b)) (.agg #[.int .i64 i, .int .i64 j]) false).run Try.prog w = .ok (.string ((f i j).getD ByteArray.empty)) w := by
  obtain ⟨D, h1, h2⟩ := h
  obtain ⟨e1, e2⟩ := h2 i j hi hj
  obtain ⟨v, ps, hrun, hv⟩ := h1.lookup law58 Try.underlying30 (zero9 w) (plainElem_string Try.underlying9 (s := ByteArray.empty) (by simp [maxLen])) (keyOf58 hi hj)
  obtain ⟨s, rfl, hs, _⟩ := plainElem_string_inv Try.underlying9 hv
  simp only [Prod.mk.injEq] at hs
  have hss : s = (f i j).getD ByteArray.empty := by
    have h3 := hs.1
    have h4 : D.atKey (K2 i j) (.lit (.string (ByteArray.empty).data.toList)) = _ := e2
    rw [h4] at h3
    simp at h3
    exact (bytes_of_list (by rw [h3])).symm
  rw [hss] at hrun
  exact hrun

/-- append, under a name that the walk does not lay open: so that what is known of its run can be met inside a region that draws its order. -/
def appSem (ts : Array TypeId) (ty : TypeId) (vs : Array Value) : Sem Value := Builtin.append_ ts ty vs
theorem appSem_eq (ts : Array TypeId) (ty : TypeId) (vs : Array Value) : Builtin.append_ ts ty vs = appSem ts ty vs := rfl

theorem grownBy_cell (w : World) (a : Addr) (u : Value) : w.grownBy (w.setCell a u) (some a.block) :=
  ⟨rfl, rfl, rfl, by simp, fun k _ hk => Below.heap_setCell w a u k (fun e => hk (by rw [e]))⟩

/-- What cycle leaves. -/
def CycPost (w : World) (n q : Nat) (f : Int → Int → Option ByteArray) (ix : List Int) (e : Ending) (w' : World) : Prop :=
  Below w.heap.size w w' ∧ ((e = .returned (.pointer none) ∧ Sh n (Ed f) ix n none) ∨
    ∃ cb ge ce p, e = .returned (.pointer (some ⟨cb, 0, none⟩)) ∧ Sh n (Ed f) ix n (some p) ∧ w'.cell? ⟨cb, 0, none⟩ = some (.slice (some ⟨ge, 0, none⟩) p.length ce) ∧
      w.heap.size ≤ ge ∧ w'.ownsRow w.heap.size 49 3 (.slice (some ⟨ge, 0, none⟩) p.length ce) p.length (edgesL f q p p.length))

section
attribute [local go_sem ↓] appSem_eq
set_option maxHeartbeats 1000000 in
set_option maxRecDepth 100000 in
theorem cycle25 (gb : Nat) (sa : Option Addr) (sg n mb m q : Nat) (f : Int → Int → Option ByteArray) (ss : List (ByteArray × Int)) (w : World) (c0 : w.cell? ⟨gb, 0, none⟩ = some (.slice sa n n)) (c1 : w.cell? ⟨gb, 1, none⟩ = some (.map (some mb)))
    (hsa : 0 < n → sa = some ⟨sg, 0, none⟩) (hrow : 0 < n → RowAt w 47 sg 0 n (ptrs q n)) (hsb : SortBlk w q ss) (hlen : ss.length = n) (hm : EMap w mb m f) (hn : n ≤ 256) (hwf : ∀ x ∈ ss, (Lit.int .i64 x.2).wf = true) :
    Calls Try.prog 25 #[.pointer (some ⟨gb, 0, none⟩)] w fun e w' => CycPost w n q f (ss.map (·.2)) e w' := by
  go_enter Try.func25, Try.ntmps25
  go_wp2_with fail
  go_loopw [3, 16] (fun sh v wr => ∃ k : Nat, k ≤ n ∧ v = .int .i64 k ∧ Below w.heap.size w wr ∧ ((sh = .slice none 0 0 ∧ Sh n (Ed f) (ss.map (·.2)) k none) ∨
    ∃ p g off cap, sh = .slice (some ⟨g, off, none⟩) p.length cap ∧ Sh n (Ed f) (ss.map (·.2)) k (some p) ∧ w.heap.size ≤ g ∧ RowAt wr 3 g off cap (ints p))) (fun _ v _ => n - (intOf v).toNat)
  case atStart => exact ⟨0, Nat.zero_le _, rfl, Below.refl _ _, .inl ⟨rfl, sh_start⟩⟩
  case round =>
    obtain ⟨k, hk, rfl, hb, hsh⟩ := hrel
    by_cases hlt : k < n
    · obtain rfl := hsa (by omega)
      have hrw := hrow (by omega)
      obtain ⟨x, hx⟩ : ∃ x, ss[k]? = some x := ⟨_, List.getElem?_eq_getElem (by omega)⟩
      have hblk := (hb.block (q + k) (by have := (Array.getElem?_eq_some_iff.1 (hsb k x hx)).1; exact this)).trans (hsb k x hx)
      have hcp := (hrw.below hb hrw.lt).cell_some (ptrs_at hlt)
      have hci : wr.cell? ⟨q + k, 1, none⟩ = some (.int .i64 x.2) := by simp [World.cell?, hblk]
      have d0 : wr.cell? ⟨gb, 0, none⟩ = some (.slice (some ⟨sg, 0, none⟩) n n) := (hb.cell (World.block_lt_of_cell? _ _ c0)).trans c0
      have d1 : wr.cell? ⟨gb, 1, none⟩ = some (.map (some mb)) := (hb.cell (World.block_lt_of_cell? _ _ c1)).trans c1
      have hme := hm.below hb hm.lt
      have hwx := hwf x (List.mem_of_getElem? hx)
      have Hix := hid (show (ss.map (·.2))[k]? = some x.2 by rw [List.getElem?_map, hx]; rfl)
      simp only [Nat.zero_add] at hcp
      have hbs := hb.size
      clear hx hblk
      obtain ⟨nm, ixv⟩ := x
      simp only at hci hwx Hix
      rcases hsh with ⟨rfl, hsh⟩ | ⟨p, g, off, cap, rfl, hsh, hgw, hprow⟩
      · have Hsh := hid hsh
        clear hsh
        have e0 := fun w => Lib.run_eql_slice_nil (P := Try.prog) w 32 3 none 0 0 0 0 Try.underlying32
        have e1 := fun w => run_neq_slice_nil_any (P := Try.prog) w 32 3 none 0 0 0 0 Try.underlying32
        have e2 := fun w g off n c => run_neq_slice_nil_any (P := Try.prog) w 32 3 (some ⟨g, off, none⟩) n c 0 0 Try.underlying32
        go_wp2_with (go_at_call 24; refine (path24 gb (some ⟨sg, 0, none⟩) n n mb m f ixv _ d0 d1 hme hn hwx).mono ?_; rintro e w4 ⟨hb4, ⟨rfl, hno⟩ | ⟨g4, off4, cap4, p4, rfl, hg4, hrow4, hbest4, hnd4⟩⟩)
        · have Hno := hid hno
          clear hno
          go_roundw
          case rel => exact ⟨k + 1, by omega, by go_num, hb.trans (hb4.mono hbs), .inl ⟨rfl, sh_none Hsh.out Hix.out Hno.out⟩⟩
          case measure => simp [intOf]; omega
        · go_roundw
          case rel => exact ⟨k + 1, by omega, by go_num, hb.trans (hb4.mono hbs), .inr ⟨p4, g4, off4, cap4, rfl, sh_first Hsh.out Hix.out hbest4 hnd4, by omega, hrow4⟩⟩
          case measure => simp [intOf]; omega
      · have Hsh := hid hsh
        clear hsh
        have e0 := fun w => Lib.run_eql_slice_nil (P := Try.prog) w 32 3 (some ⟨g, off, none⟩) p.length cap 0 0 Try.underlying32
        have e1 := fun w => run_neq_slice_nil_any (P := Try.prog) w 32 3 none 0 0 0 0 Try.underlying32
        have e2 := fun w g off n c => run_neq_slice_nil_any (P := Try.prog) w 32 3 (some ⟨g, off, none⟩) n c 0 0 Try.underlying32
        go_wp2_with (go_at_call 24; refine (path24 gb (some ⟨sg, 0, none⟩) n n mb m f ixv _ d0 d1 hme hn hwx).mono ?_; rintro e w4 ⟨hb4, ⟨rfl, hno⟩ | ⟨g4, off4, cap4, p4, rfl, hg4, hrow4, hbest4, hnd4⟩⟩)
        · have hr4 := hprow.below hb4 hprow.lt
          have Hno := hid hno
          clear hno
          go_roundw
          case rel => exact ⟨k + 1, by omega, by go_num, hb.trans (hb4.mono hbs), .inr ⟨p, g, off, cap, rfl, sh_none Hsh.out Hix.out Hno.out, hgw, hr4⟩⟩
          case measure => simp [intOf]; omega
        · have hl : p4.length < p.length := by omega
          go_roundw
          case rel => exact ⟨k + 1, by omega, by go_num, hb.trans (hb4.mono hbs), .inr ⟨p4, g4, off4, cap4, rfl, sh_less Hsh.out Hix.out hbest4 hnd4 hl, by omega, hrow4⟩⟩
          case measure => simp [intOf]; omega
        · have hl : ¬ p4.length < p.length := by omega
          have hr4 := hprow.below hb4 hprow.lt
          go_roundw
          case rel => exact ⟨k + 1, by omega, by go_num, hb.trans (hb4.mono hbs), .inr ⟨p, g, off, cap, rfl, sh_keep Hsh.out Hix.out hbest4 hl, hgw, hr4⟩⟩
          case measure => simp [intOf]; omega
    · have hkn : k = n := by omega
      rcases hsh with ⟨rfl, hsh⟩ | ⟨p, g, off, cap, rfl, hsh, hgw, hprow⟩
      · have Hsh := hid (show Sh n (Ed f) (ss.map (·.2)) n none by have h := hsh; rwa [hkn] at h)
        have e0 := fun w => Lib.run_eql_slice_nil (P := Try.prog) w 32 3 none 0 0 0 0 Try.underlying32
        clear hsh hkn
        go_wp2
        go_ret
        exact ⟨hb, .inl ⟨rfl, Hsh.out⟩⟩
      · have Hsh := hid (show Sh n (Ed f) (ss.map (·.2)) n (some p) by have h := hsh; rwa [hkn] at h)
        have e0 := fun w => Lib.run_eql_slice_nil (P := Try.prog) w 32 3 (some ⟨g, off, none⟩) p.length cap 0 0 Try.underlying32
        clear hsh hkn
        obtain ⟨i0, hi, hz0, hz1, hz2⟩ := info_parts Try.info49
        have hpl : p.length ≤ n := by
          obtain ⟨_, _, _, _, hb5, hd5, _⟩ := Hsh.out
          exact nodup_le_int n p hd5 (fun x hx => by obtain ⟨i, hi, rfl⟩ := List.getElem_of_mem hx; exact hb5.1.range (List.getElem?_eq_getElem hi))
        have hpr : ∀ (i : Nat) (x : Int), p[i]? = some x → inR n x := by
          obtain ⟨_, _, _, _, hb5, _⟩ := Hsh.out
          exact fun i x h => hb5.1.range h
        have hpos : 0 < p.length := by
          obtain ⟨_, _, _, _, hb5, _⟩ := Hsh.out
          exact hb5.1.pos
        obtain rfl := hsa (by omega)
        have hrw := hrow (by omega)
        have Hpr := hid hpr
        have hgc := hprow.lt
        have hbs := hb.size
        clear hpr
        go_wp2_with fail
        clear hlt hk
        have hcbc : (wr.alloc (.cells #[.slice none 0 0] 46)).cell? ⟨wr.heap.size, 0, none⟩ = some (.slice none 0 0) := by simp
        have hcbf : (wr.alloc (.cells #[.slice none 0 0] 46)).frozen? ⟨wr.heap.size, 0, none⟩ = false := by simp
        have hprA := hprow.alloc (.cells #[.slice none 0 0] 46)
        have hbA := hb.alloc hbs (.cells #[.slice none 0 0] 46)
        have hszA : wr.heap.size < (wr.alloc (.cells #[.slice none 0 0] 46)).heap.size := by simp
        generalize wr.alloc (.cells #[.slice none 0 0] 46) = wA at *
        generalize wr.heap.size = cb at *
        clear hprow hb
        go_loopw [47] (fun v ws => ∃ (j : Nat) (ev : Value), j ≤ p.length ∧ v = .int .i64 j ∧ ws.cell? ⟨cb, 0, none⟩ = some ev ∧ ws.frozen? ⟨cb, 0, none⟩ = false ∧ ws.ownsRow w.heap.size 49 3 ev j (edgesL f q p j) ∧ (∀ b, ev.ownBlock = some b → cb < b) ∧
          RowAt ws 3 g off cap (ints p) ∧ Below w.heap.size w ws ∧ cb < ws.heap.size) (fun v _ => p.length - (intOf v).toNat)
        case atStart => exact ⟨0, _, Nat.zero_le _, rfl, hcbc, hcbf, World.ownsRow_nil _ _ _ _, fun b h => by simp [Value.ownBlock] at h, hprA, hbA, hszA⟩
        case round =>
          clear hcbc hcbf hprA hbA hszA
          obtain ⟨j, ev, hj, rfl, hcbc, hcbf, hown, hloc, hpr, hb, hsz⟩ := hrel
          by_cases hlt : j < p.length
          · obtain ⟨x, hx⟩ : ∃ x, p[j]? = some x := ⟨_, List.getElem?_eq_getElem hlt⟩
            obtain ⟨y, hy⟩ : ∃ y, p[(j + 1) % p.length]? = some y := ⟨_, List.getElem?_eq_getElem (Nat.mod_lt _ hpos)⟩
            have hxr := Hpr.out _ _ hx
            have hyr := Hpr.out _ _ hy
            obtain ⟨xn, rfl⟩ : ∃ xn : Nat, x = xn := ⟨x.toNat, by have := hxr.1; omega⟩
            obtain ⟨yn, rfl⟩ : ∃ yn : Nat, y = yn := ⟨y.toNat, by have := hyr.1; omega⟩
            have hxn : xn < n := by have := hxr.2; omega
            have hyn : yn < n := by have := hyr.2; omega
            have hcx := hpr.cell_some (j := j) (u := .int .i64 xn) (by rw [List.getElem?_map, hx]; rfl)
            have hcy := hpr.cell_some (j := (j + 1) % p.length) (u := .int .i64 yn) (by rw [List.getElem?_map, hy]; rfl)
            have hp1 := (hrw.below hb hrw.lt).cell_some (ptrs_at hxn)
            have hp2 := (hrw.below hb hrw.lt).cell_some (ptrs_at hyn)
            have d0 : wr.cell? ⟨gb, 0, none⟩ = some (.slice (some ⟨sg, 0, none⟩) n n) := (hb.cell (World.block_lt_of_cell? _ _ c0)).trans c0
            have d1 : wr.cell? ⟨gb, 1, none⟩ = some (.map (some mb)) := (hb.cell (World.block_lt_of_cell? _ _ c1)).trans c1
            have hme := hm.below hb hm.lt
            have hlk := run_look_e1 wr.drew hme.drew xn yn (wf_of hn hxr) (wf_of hn hyr)
            have hmi0 : 0 ≤ ((j : Int) + 1) % (p.length : Int) := Int.emod_nonneg _ (by omega)
            have hmi1 : ((j : Int) + 1) % (p.length : Int) < (p.length : Int) := Int.emod_lt_of_pos _ (by omega)
            have hmod : (j + 1) % p.length < p.length := Nat.mod_lt _ hpos
            simp only [Nat.zero_add] at hp1 hp2
            have HE := hid (show edgeL f q p j = [.pointer (some ⟨q + xn, 0, none⟩), .pointer (some ⟨q + yn, 0, none⟩), .string ((f xn yn).getD ByteArray.empty)] by simp [edgeL, List.getD, hx, hy])
            have hgbl : gb < wr.heap.size := World.block_lt_of_cell? _ _ d0
            have hsgl : sg < wr.heap.size := World.block_lt_of_cell? _ _ hp1
            obtain ⟨s, hs⟩ : ∃ s, s = (f xn yn).getD ByteArray.empty := ⟨_, rfl⟩
            rw [← hs] at hlk HE
            have hoA := (hown.alloc (.cells #[.pointer (some ⟨q + xn, 0, none⟩), .pointer (some ⟨q + yn, 0, none⟩), .string s] 49)).drew
            obtain ⟨ge, ce, w2, hrun, hown2, hg2, hat2, hlt2⟩ := run_append_lies (P := Try.prog) _ 44 44 w.heap.size 49 i0 _ 3 32 Try.underlying44 hi hz0 hz1 hz2 rfl (by decide) ev j (edgesL f q p j) hoA ⟨wr.heap.size, 0, none⟩ 1 1 [.pointer (some ⟨q + xn, 0, none⟩), .pointer (some ⟨q + yn, 0, none⟩), .string s] rfl
              (World.news_of_block (cs := #[.pointer (some ⟨q + xn, 0, none⟩), .pointer (some ⟨q + yn, 0, none⟩), .string s]) (heap_alloc_new wr _)) (by simp [Value.oneCell']) (by omega) (by unfold maxLen; omega) (by omega) (by have := hb.size; simp; omega) _ rfl
            have hcb2 : w2.cell? ⟨cb, 0, none⟩ = some ev := by
              rw [hg2.cell_far ⟨cb, 0, none⟩ (by simp; omega) (fun h => by have := hloc cb h.symm; omega), World.cell?_drew, World.cell?_alloc_lt _ _ _ (by simpa using hsz)]
              exact hcbc
            have hcf2 : w2.frozen? ⟨cb, 0, none⟩ = false := by
              rw [hg2.frozen_far ⟨cb, 0, none⟩ (by simp; omega) (fun h => by have := hloc cb h.symm; omega), World.frozen?_drew, World.frozen?_alloc_old _ _ _ (by simp; omega)]
              exact hcbf
            clear hoA
            go_wp2_with fail
            have hrun' : (appSem #[44, 44] 44 #[ev, .slice (some ⟨wr.heap.size, 0, none⟩) 1 1]).run Try.prog (wr.alloc (.cells #[.pointer (some ⟨q + xn, 0, none⟩), .pointer (some ⟨q + yn, 0, none⟩), .string s] 49)).drew = .ok (.slice (some ⟨ge, 0, none⟩) (j + 1) ce) w2 := hrun
            have hbA := (hb.alloc hb.size (.cells #[.pointer (some ⟨q + xn, 0, none⟩), .pointer (some ⟨q + yn, 0, none⟩), .string s] 49)).drew
            have hb2 : Below w.heap.size w w2 := hbA.grown hg2 (by have := hb.size; simp; omega) (fun k hk => by have := hloc k hk; omega)
            have hpr2 : RowAt w2 3 g off cap (ints p) := (hpr.alloc _).drew.kept hg2 (fun h => by have := hloc g h.symm; omega)
            have Hend := hid (show w2.ownsRow w.heap.size 49 3 (.slice (some ⟨ge, 0, none⟩) (j + 1) ce) (j + 1) (edgesL f q p (j + 1)) ∧ cb < ge ∧ cb < w2.heap.size ∧ Below w.heap.size w w2 ∧ RowAt w2 3 g off cap (ints p) by
              refine ⟨by rw [edgesL_succ, HE.out]; exact hown2, ?_, by have := hg2.size; simp at this; omega, hb2, hpr2⟩
              rcases hat2 with h | h
              · exact hloc ge h
              · simp at h; omega)
            have hgcb : g ≠ cb := by omega
            clear hcx hcy hpr hme hown hown2 hg2 hat2 hs hrun hbA hb2 hpr2 hlt2
            go_region
            go_wp2
            go_roundw
            case rel =>
              obtain ⟨t1, t2, t3, t4, t5⟩ := Hend.out
              refine ⟨j + 1, .slice (some ⟨ge, 0, none⟩) (j + 1) ce, by omega, by go_num, World.cell?_setCell_same _ _ _ hcb2, by rw [World.frozen?_setCell]; exact hcf2, ?_, fun b h => by simp [Value.ownBlock] at h; omega, t5.other hgcb _, t4.setCell (by have := hb.size; simp; omega) _, by simpa using t3⟩
              exact t1.kept (grownBy_cell _ _ _) (Or.inr (by simp [Value.ownBlock]; omega))
            case measure => simp [intOf]; omega
          · have hje : j = p.length := by omega
            subst hje
            obtain ⟨ge, ce, rfl, hge, hgl⟩ := hown.form hpos
            go_wp2
            go_ret
            exact ⟨hb, .inr ⟨cb, ge, ce, p, rfl, Hsh.out, hcbc, hge, hown⟩⟩

end
end Go.Proofs.Qxb6601988a
