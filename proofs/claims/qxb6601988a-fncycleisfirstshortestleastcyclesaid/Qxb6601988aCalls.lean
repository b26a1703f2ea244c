/-
  ZZMakeGraph, ZZPathBack; zzBuildSortsHB1 at whatever slice.
-/
import Derived.Test.Qxb6601988aPath
import Derived.Test.Qxb6601988aSorts
import Derived.Test.Qxb6601988aEdges
namespace Go.Proofs.Qxb6601988a
open Go.RowKit Go.Proofs.Qxb6601988a.Bfs

theorem graph9 (a : Option Addr) (n c : Nat) (mb : Nat) (w : World) :
    Calls Try.prog 9 #[.slice a n c, .map (some mb)] w fun e w' => e = .returned (.pointer (some ⟨w.heap.size, 0, none⟩)) ∧ w' = w.alloc (.cells #[.slice a n c, .map (some mb)] 56) := by
  go_enter Try.func9, Try.ntmps9
  go_wp2
  go_ret
  exact ⟨rfl, rfl⟩

theorem path12 (gb : Nat) (sa : Option Addr) (n sc mb m : Nat) (f : Int → Int → Option ByteArray) (st : Int) (w : World) (c0 : w.cell? ⟨gb, 0, none⟩ = some (.slice sa n sc)) (c1 : w.cell? ⟨gb, 1, none⟩ = some (.map (some mb)))
    (hm : EMap w mb m f) (hn : n ≤ 256) (hst : (Lit.int .i64 st).wf = true) :
    Calls Try.prog 12 #[.pointer (some ⟨gb, 0, none⟩), .int .i64 st] w fun e w' => PathPost w n f st e w' := by
  go_enter Try.func12, Try.ntmps12
  go_wp2_with (go_at_call 24; refine (path24 gb sa n sc mb m f st _ c0 c1 hm hn hst).mono ?_; rintro e w' ⟨hb, ⟨rfl, hno⟩ | ⟨g, off, cap, p, rfl, h1, h2, h3⟩⟩)
  · have H := hid hno
    clear hno
    go_wp2
    go_ret
    exact ⟨hb, .inl ⟨rfl, H.out⟩⟩
  · have H := hid h3
    clear h3
    go_wp2
    go_ret
    exact ⟨hb, .inr ⟨g, off, cap, p, rfl, h1, h2, H.out⟩⟩

theorem sorts10_any (a : Option Addr) (n c : Nat) (ss : List (ByteArray × Int)) (w : World) (hs : Srt w a n ss) (hn : n ≤ 256) :
    Calls Try.prog 10 #[.slice a n c] w fun e w' => ∃ ga, e = .returned (.slice ga n n) ∧ Below w.heap.size w w' := by
  cases a with
  | none =>
    obtain rfl := hs.nil rfl
    exact (sorts10_nil c w).mono fun e w' ⟨h1, h2⟩ => ⟨_, h1, h2 ▸ Below.refl _ _⟩
  | some a => exact (sorts10 a n c ss w hs hn).mono fun e w' ⟨h1, _, _, _, h2⟩ => ⟨_, h1, h2⟩

end Go.Proofs.Qxb6601988a
