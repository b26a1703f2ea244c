/-
  FnPathBackIsLeastShortestCycle, walked.
-/
import Derived.Test.Qxb6601988aBytes
import Derived.Test.Qxb6601988aCalls
import Derived.Test.Qxb6601988aSmall
import Derived.Test.Qxb6601988aGreedy
import Derived.Test.Qxb6601988aLift
namespace Go.Proofs.Qxb6601988a
open Go.RowKit Go.Proofs.Qxb6601988a.Bfs

theorem mat_ed (n : Nat) (es : List (Int × Int × ByteArray)) : mat n (adjOf es) = mat n (fun i j => Ed (firstWhy es) i j) := by
  congr 1
  funext i j
  exact (firstWhy_adj es i j).symm

theorem best_len {n : Nat} {E : Int → Int → Bool} {st : Int} {p : List Int} (hb : Best n E st p) (hnd : p.Nodup) : p.length ≤ n :=
  nodup_le_int n p hnd (fun x hx => by obtain ⟨i, hi, rfl⟩ := List.getElem_of_mem hx; exact hb.1.range (List.getElem?_eq_getElem hi))

set_option maxHeartbeats 1000000 in
set_option maxRecDepth 100000 in
theorem walk3 : Walk3 := by
  intro a0 n cap0 ss a1 len1 cap1 es st w hs he hst
  have hm0 := hs.max
  have hm1 := he.max
  unfold maxLen at hm0 hm1
  go_enter Try.func3, Try.ntmps3
  go_wp2_with (first
    | (go_at_call 7; refine (bytes7 a0 n cap0 a1 len1 cap1 st _ hs.max he.max hs.name he.why).mono ?_; rintro e w' ⟨⟨b, rfl⟩, rfl⟩)
    | (go_at_call 8; refine (bytes8 a0 n cap0 a1 len1 cap1 _ hs.max he.max hs.name he.why).mono ?_; rintro e w' ⟨⟨b8, rfl⟩, rfl⟩))
  all_goals try (go_ret; exact ⟨rfl, Below.refl _ _⟩)
  have hn : n ≤ 256 := by omega
  have hl1 : len1 ≤ 32768 := by omega
  refine (sorts10_any a0 n cap0 ss _ hs hn).mono ?_
  rintro e w1 ⟨ga, rfl, hb1⟩
  have he1 := he.below hb1
  go_wp2_with (first
    | (go_at_call 11; refine (edges11 a1 len1 cap1 es _ he1 hl1).mono ?_; rintro e w2 ⟨rfl, hm2, hb2⟩)
    | (go_at_call 9; refine (graph9 ga n n w1.heap.size _).mono ?_; rintro e w3 ⟨rfl, rfl⟩))
  have hs1 := hb1.size
  have hs2 := hb2.size
  have d0 : (w2.alloc (.cells #[.slice ga n n, .map (some w1.heap.size)] 56)).cell? ⟨w2.heap.size, 0, none⟩ = some (.slice ga n n) := by simp
  have d1 : (w2.alloc (.cells #[.slice ga n n, .map (some w1.heap.size)] 56)).cell? ⟨w2.heap.size, 1, none⟩ = some (.map (some w1.heap.size)) := by simp
  have hm3 := hm2.alloc (.cells #[.slice ga n n, .map (some w1.heap.size)] 56)
  have he3 := he1.below (hb2.alloc hs2 (.cells #[.slice ga n n, .map (some w1.heap.size)] 56))
  have hb3 : Below w.heap.size w (w2.alloc (.cells #[.slice ga n n, .map (some w1.heap.size)] 56)) := (hb1.trans (hb2.mono hs1)).alloc (by omega) _
  generalize w2.alloc (.cells #[.slice ga n n, .map (some w1.heap.size)] 56) = w3 at *
  generalize w2.heap.size = gb at *
  generalize w1.heap.size = mb at *
  clear hb1 hb2 hs1 hs2 hm2 he1 hs he
  have hb3s := hb3.size
  refine (path12 gb ga n n mb len1 (firstWhy es) st w3 d0 d1 hm3 hn hst).mono ?_
  rintro e w4 ⟨hb4, ⟨rfl, hno⟩ | ⟨g, off, cap, p, rfl, hg, hrow, hbest, hnd⟩⟩
  · have he4 := he3.below hb4
    have hb4w : Below w.heap.size w w4 := hb3.trans (hb4.mono hb3s)
    have hb4s := hb4w.size
    have Hno := hid hno
    clear hno
    go_wp2_with (first
      | (go_at_call 13; refine (adj13 a1 len1 cap1 n es _ he4 hn).mono ?_; rintro e w5 ⟨ag, rfl, hag, harow, hb5⟩; rw [mat_ed] at harow)
      | (go_at_call 14; refine (dist14 ag n (Ed (firstWhy es)) _ harow hn).mono ?_; rintro e w6 ⟨dg, D, rfl, hdg, hdrow, hD, hb6⟩; have harow6 := harow.below hb6 harow.lt)
      | (go_at_call 15; refine (least15_none ag dg n (Ed (firstWhy es)) D st _ harow6 hdrow hD hn Hno.out).mono ?_; rintro e w7 ⟨rfl, rfl⟩)
      | (go_at_call 16; refine (same16_nil _).mono ?_; rintro e w8 ⟨rfl, rfl⟩))
    go_ret
    exact ⟨rfl, (hb4w.trans (hb5.mono hb4s)).trans (hb6.mono (by have := hb5.size; omega))⟩
  · have he4 := he3.below hb4
    have hb4w : Below w.heap.size w w4 := hb3.trans (hb4.mono hb3s)
    have hb4s := hb4w.size
    have hpl := best_len hbest hnd
    have HB := hid hbest
    clear hbest hnd
    go_wp2_with (first
      | (go_at_call 13; refine (adj13 a1 len1 cap1 n es _ he4 hn).mono ?_; rintro e w5 ⟨ag, rfl, hag, harow, hb5⟩; rw [mat_ed] at harow; have hrow5 := hrow.below hb5 hrow.lt)
      | (go_at_call 14; refine (dist14 ag n (Ed (firstWhy es)) _ harow hn).mono ?_; rintro e w6 ⟨dg, D, rfl, hdg, hdrow, hD, hb6⟩; have harow6 := harow.below hb6 harow.lt; have hrow6 := hrow5.below hb6 hrow5.lt)
      | (go_at_call 15; refine (least15 ag dg n (Ed (firstWhy es)) D st _ harow6 hdrow hD hn p HB.out hpl).mono ?_; rintro e w7 ⟨g7, off7, cap7, rfl, hg7, hrow7, hb7⟩; have hrowp := hrow6.below hb7 hrow6.lt)
      | (go_at_call 16; refine (same16 g off cap g7 off7 cap7 p _ hrowp hrow7).mono ?_; rintro e w8 ⟨rfl, hb8⟩))
    go_ret
    have s5 := hb5.size
    have s6 := hb6.size
    have s7 := hb7.size
    exact ⟨rfl, (((hb4w.trans (hb5.mono hb4s)).trans (hb6.mono (by omega))).trans (hb7.mono (by omega))).trans (hb8.mono (by omega))⟩

end Go.Proofs.Qxb6601988a
