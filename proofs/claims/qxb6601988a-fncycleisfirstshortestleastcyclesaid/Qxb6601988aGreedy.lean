/-
  zzLeastCycleHB1, walked.
-/
import Derived.Test.Qxb6601988aLeast
namespace Go.Proofs.Qxb6601988a
open Go.RowKit Go.Proofs.Qxb6601988a.Bfs

/-- make([]T, l, n), l a number of the text -/
theorem wpList_make_cap {P : Program} {e : TypeId} (w : World) {ops : Array Oper} {rest : List Oper} {o : Oper} {a : Act} {Q : Exit → Act → World → Prop}
    (hg : o.guard = none) (lo c : Operand) (t : TypeId) (hop : o.op = Op.makeSlice t lo c)
    (i : TypeInfo) (z : Value) (h1 : P.underlying t = some (.slice e)) (h2 : P.info? e = some i) (h3 : i.zero = some z) (h4 : i.size = 1) (h5 : z.cells = #[z])
    (kl kc : IntKind) (L C : Int) (l n : Nat) (hl : a.eval lo = .int kl L) (hc : a.eval c = .int kc C) (hL : L = (l : Int)) (hC : C = (n : Int)) (hln : l ≤ n) (b2 : i.bytes * n ≤ 281474976710656) (b3 : n ≤ maxLen)
    (hK : ∀ w', RowAt w' e w.heap.size 0 n (List.replicate l z) → w.grownBy w' none → w'.heap.size = w.heap.size + 1 → wpList P ops Q rest (a.put o.dst (.slice (some ⟨w.heap.size, 0, none⟩) l n)) w') :
    wpList P ops Q (o :: rest) a w := by
  refine wpList_plain hg fun K hK' => ?_
  subst hL
  subst hC
  have h63' : (n : Int) ≤ 9223372036854775807 := by
    have h := b3
    simp [maxLen] at h
    omega
  have hb' : (i.bytes : Int) * (n : Int) ≤ 281474976710656 := by
    have h : ((i.bytes * n : Nat) : Int) ≤ 281474976710656 := by omega
    rwa [Int.natCast_mul] at h
  have hrun := run_make (P := P) w t e i z h1 h2 h3 kl kc l n (by omega) (by omega) hb' h63'
  simp only [Int.toNat_natCast, h4, Nat.mul_one, h5] at hrun
  have hrow : RowAt (w.alloc (.cells (madeCells #[z] n) e)) e w.heap.size 0 n (List.replicate l z) := by
    refine ⟨⟨_, heap_alloc_new w _, by simp [size_madeCells], fun j hj => ?_⟩, by simpa using hln, b3⟩
    have hj' : j < l := by simpa using hj
    rw [Nat.zero_add, ← Array.getElem?_toList, toList_madeCells_one, List.getElem?_replicate, List.getElem?_replicate, if_pos (by omega), if_pos hj']
  unfold Oper.wp
  simp [execOp, hop, hl, hc, hrun, Result.andThen]
  exact hK' _ _ (hK _ hrow (World.grownBy_alloc w _ none) (by simp))

theorem least15_none (ag dg n : Nat) (E : Int → Int → Bool) (D : Int → Int → Int) (st : Int) (w : World) (ha : RowAt w 4 ag 0 (n * n) (mat n (fun i j => E i j))) (hd : RowAt w 3 dg 0 (n * n) (matI n D)) (hD : Dist n E D) (hn : n ≤ 256)
    (hno : ∀ q, ¬ Closed n E st q) :
    Calls Try.prog 15 #[.slice (some ⟨ag, 0, none⟩) (n * n) (n * n), .slice (some ⟨dg, 0, none⟩) (n * n) (n * n), .int .i64 n, .int .i64 st] w fun e w' => e = .returned (.slice none 0 0) ∧ w = w' := by
  have Hno := hid hno
  clear hno
  go_enter Try.func15, Try.ntmps15
  go_wp2_with (go_at_call 20; refine (back20 ag dg n E D st _ ha hd hD hn).mono ?_; rintro e w' ⟨l, rfl, hp, rfl⟩; obtain rfl := hp.2 Hno.out)
  go_ret
  exact ⟨rfl, rfl⟩

set_option maxHeartbeats 1000000 in
set_option maxRecDepth 100000 in
theorem least15 (ag dg n : Nat) (E : Int → Int → Bool) (D : Int → Int → Int) (st : Int) (w : World) (ha : RowAt w 4 ag 0 (n * n) (mat n (fun i j => E i j))) (hd : RowAt w 3 dg 0 (n * n) (matI n D)) (hD : Dist n E D) (hn : n ≤ 256)
    (p : List Int) (hb : Best n E st p) (hl : p.length ≤ n) :
    Calls Try.prog 15 #[.slice (some ⟨ag, 0, none⟩) (n * n) (n * n), .slice (some ⟨dg, 0, none⟩) (n * n) (n * n), .int .i64 n, .int .i64 st] w fun e w' =>
      ∃ g off cap, e = .returned (.slice (some ⟨g, off, none⟩) p.length cap) ∧ w.heap.size ≤ g ∧ RowAt w' 3 g off cap (ints p) ∧ Below w.heap.size w w' := by
  obtain ⟨i0, hi, hz0, hz1, hz2⟩ := info_parts Try.info3
  have hnn : n * n ≤ 65536 := Nat.le_trans (Nat.mul_le_mul hn hn) (by decide)
  have hpos := hb.1.pos
  have hag := ha.lt
  have hdg := hd.lt
  obtain ⟨r0, r1⟩ := hb.1.2.1
  obtain ⟨sn, rfl⟩ : ∃ sn : Nat, st = sn := ⟨st.toNat, by omega⟩
  have hsn : sn < n := by omega
  have HB := hid hb
  have hlb : ((p.length : Int) == 0) = false := by rw [beq_eq_false_iff_ne]; omega
  clear hb
  go_enter Try.func15, Try.ntmps15
  go_wp2_with (first
    | (go_at_call 20; refine (back20 ag dg n E D sn _ ha hd hD hn).mono ?_; rintro e w' ⟨l, rfl, hp, rfl⟩; obtain rfl := hp.1 p HB.out hl; clear hp)
    | (at_make; refine wpList_make_cap _ rfl _ _ 32 rfl i0 (.int .i64 0) Try.underlying32 hi hz0 hz1 rfl _ _ _ _ 1 p.length rfl rfl rfl rfl (by omega) (by rw [hz2]; omega) (by unfold maxLen; omega) ?_; intro w1 hrow hgrow hsz; have hcz := hrow.cell_some (j := 0) (u := .int .i64 0) rfl; have hfz := hrow.frozen 0; simp only [Nat.add_zero] at hcz))
  have hb1 : Below w.heap.size w w1 := (Below.refl _ _).grown hgrow (Nat.le_refl _) (fun k hk => by cases hk)
  have hlt1 : w.heap.size < w1.heap.size := by omega
  clear hgrow hsz hcz hfz
  go_loopg [10, 11, 12] (p.length) (fun gk v cu rm wr => ∃ (t cn r g off cap : Nat), 0 < t ∧ t ≤ p.length ∧ r + t = p.length + 1 ∧ rm = .int .i64 r ∧ v = .slice (some ⟨g, off, none⟩) t cap ∧ RowAt wr 3 g off cap (ints (p.take t)) ∧ w.heap.size ≤ g ∧
    cu = .int .i64 cn ∧ Hid (p[t - 1]? = some (cn : Int)) ∧ Below w.heap.size w wr ∧ p.length ≤ gk + t)
  case atStart =>
    refine ⟨1, sn, p.length, w.heap.size, 0, p.length, by omega, by omega, rfl, rfl, rfl, ?_, Nat.le_refl _, rfl, HB.out.1.1.1, hb1.setCell (Nat.le_refl _) _, by omega⟩
    have h := hrow.stored 0 (.int .i64 sn)
    have e : p.take 1 = [(sn : Int)] := by
      have h0 := HB.out.1.1.1
      match p, h0 with
      | x :: r, h0 => simp at h0; simp [h0]
    rw [e]
    simpa using h
  case round =>
    clear hrow hb1 hlt1
    obtain ⟨gA, rfl⟩ : ∃ x, x = gk := ⟨_, rfl⟩
    obtain ⟨t, cn, r, g, off, cap, ht0, ht, hrt, rfl, rfl, hr, hgw, rfl, hcur, hbl, hgk⟩ := hrel
    have Hgk := hid hgk
    have Hrt := hid hrt
    have hsz := hbl.size
    by_cases hlast : t = p.length
    · have hr1 : r ≤ 1 := by omega
      have Ht := hid hlast
      clear hgk hrt hlast
      go_wp2
      go_ret
      have e := Ht.out
      refine ⟨g, off, cap, by rw [← e]; rfl, hgw, ?_, hbl⟩
      have h := hr
      rw [e, List.take_length] at h
      exact h
    · have hr1 : 1 < r := by omega
      have htl : t < p.length := by omega
      obtain ⟨x, hx⟩ : ∃ x, p[t]? = some x := ⟨_, List.getElem?_eq_getElem htl⟩
      obtain ⟨hxr, hE, hDx, hmin⟩ := hD.next HB.out hl ht0 hcur.out hx
      have hcr := HB.out.1.range hcur.out
      obtain ⟨xn, rfl⟩ : ∃ xn : Nat, x = xn := ⟨x.toNat, by have := hxr.1; omega⟩
      have hxn : xn < n := by have := hxr.2; omega
      have hcn : cn < n := by have := hcr.2; omega
      have hDx' : D xn sn = (r : Int) - 1 := by omega
      have Hmin := hid (show ∀ v : Nat, v < xn → ¬ (E cn v = true ∧ D v sn = (r : Int) - 1) from fun v hv h => hmin v ⟨by omega, by omega⟩ (by omega) ⟨h.1, by omega⟩)
      have Hx := hid hx
      have HE := hid hE
      have HDx := hid hDx'
      have hrb : r ≤ 257 := by omega
      clear hgk hrt hlast hx hxr hE hDx hmin hcr hDx'
      go_wp2_with fail
      go_loop [13, 14] (fun nx v => ∃ k : Nat, k ≤ xn ∧ nx = .int .i64 (-1) ∧ v = .int .i64 k) (fun _ v => n - (intOf v).toNat)
      case atStart => exact ⟨0, Nat.zero_le _, rfl, rfl⟩
      case round =>
        obtain ⟨k, hk, rfl, rfl⟩ := hrel
        have hkn : k < n := by omega
        have x1 := ix_lt hcn hkn
        have x2 := ix_lt hkn hsn
        have q1 := (ha.below hbl hag).cell_some (mat_at (fun i j => E i j) hcn hkn)
        have q2 := (hd.below hbl hdg).cell_some (matI_at D hkn hsn)
        simp only [Nat.zero_add] at q1 q2
        by_cases hkx : k = xn
        · subst hkx
          rw [HE.out] at q1
          rw [HDx.out] at q2
          have hrr : (((r : Int) - 1) == ((r : Int) - 1)) = true := by simp
          go_wp2_with (at_builtin; refine wpList_append_row rfl _ _ 32 rfl i0 (.int .i64 0) 8 Try.underlying32 hi hz0 hz1 hz2 rfl (hr.alloc _) t (by simp; omega) rfl ⟨wr.heap.size, 0, none⟩ 1 1 [.int .i64 k] rfl rfl (cell_one_new _ _ _) (ints_oneCell .i64 [(k : Int)]) (by unfold maxLen; omega) (by omega) ?_; intro g' off' cap' w2 hrow2 hg2 hloc)
          go_roundg (gA - 1)
          case measure => have := Hgk.out; omega
          case rel =>
            have s2 := hg2.size
            simp only [World.size_alloc] at s2 hloc
            have hb2 : Below w.heap.size w w2 := (hbl.alloc hbl.size _).grown hg2 (by simp; omega) (fun j hj => by cases hj; omega)
            refine ⟨t + 1, k, r - 1, g', off', cap', by omega, by omega, by have := Hrt.out; omega, by go_num, rfl, ?_, ?_, rfl, by simpa using Hx, hb2, by have := Hgk.out; omega⟩
            · rw [take_snoc Hx.out]
              simpa using hrow2
            · rcases hloc with h | h <;> omega
        · have hklt : k < xn := by omega
          have hnot := Hmin.out k hklt
          obtain ⟨z, hz⟩ : ∃ z, z = D k sn := ⟨_, rfl⟩
          have b1 := hD.snd.lo k sn ⟨by omega, by omega⟩ ⟨r0, r1⟩
          have b2 := hD.snd.hi k sn ⟨by omega, by omega⟩ ⟨r0, r1⟩
          rw [← hz] at q2 hnot b1 b2
          by_cases hEk : E cn k = true
          · have hzr : (z == (r : Int) - 1) = false := by rw [beq_eq_false_iff_ne]; exact fun h => hnot ⟨hEk, h⟩
            clear hz hnot
            go_wp2
            go_round
            case rel => exact ⟨k + 1, by omega, rfl, by go_num⟩
            case measure => simp [intOf]; omega
          · have hEk' : E cn k = false := by simpa using hEk
            clear hz hnot hEk
            go_wp2
            go_round
            case rel => exact ⟨k + 1, by omega, rfl, by go_num⟩
            case measure => simp [intOf]; omega

end Go.Proofs.Qxb6601988a
