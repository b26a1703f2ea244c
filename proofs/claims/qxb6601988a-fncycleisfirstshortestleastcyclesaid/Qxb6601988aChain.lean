/-
  The cells of a cycle's edges; lengths of cycles back as zzBackLenHB1 tells them.
-/
import Derived.Test.Qxb6601988aBundle
import Derived.Test.Qxb6601988aGreedy
namespace Go.Proofs.Qxb6601988a
open Go.RowKit Go.Proofs.Qxb6601988a.Bfs

theorem neqp_same (w : World) (a : Addr) : (binOp .neq 47 (.pointer (some a)) (.pointer (some a))).run Try.prog w = .ok (.bool false) w := by
  obtain ⟨j0, h0, h1⟩ := Option.map_eq_some_iff.1 Try.info57
  have h : ∀ d : Nat, (Op.equalIn (d + 1) 47 (.pointer (some a)) (.pointer (some a))).run Try.prog w = .ok true w := fun d => by
    simp [Op.equalIn, run_underlying Try.underlying47, sizeOf, typeInfo, h0, run_sameAddr_same]
  simp only [binOp]
  simp [Op.equal, Op.maxDepth, h 9999]

theorem edgesC_at (f : Int → Int → Option ByteArray) (q : Nat) (p : List Int) {m k i : Nat} (hk : k < m) (hi : i < 3) : (edgesL f q p m)[k * 3 + i]? = (edgeL f q p k)[i]? := by
  induction m with
  | zero => omega
  | succ m ih =>
    rw [edgesL_succ]
    by_cases h : k < m
    · rw [List.getElem?_append_left (by rw [edgesL_length]; omega)]
      exact ih h
    · obtain rfl : k = m := by omega
      rw [List.getElem?_append_right (by rw [edgesL_length]; omega), edgesL_length]
      congr 1
      omega

/-- The three cells of edge k. -/
theorem edgeC_cells {w : World} {B ge ce q : Nat} {f : Int → Int → Option ByteArray} {p : List Int} (h : w.ownsRow B 49 3 (.slice (some ⟨ge, 0, none⟩) p.length ce) p.length (edgesL f q p p.length))
    {k xn yn : Nat} (hk : k < p.length) (hx : p[k]? = some (xn : Int)) (hy : p[(k + 1) % p.length]? = some (yn : Int)) :
    w.cell? ⟨ge, k * 3, none⟩ = some (.pointer (some ⟨q + xn, 0, none⟩)) ∧ w.cell? ⟨ge, k * 3 + 1, none⟩ = some (.pointer (some ⟨q + yn, 0, none⟩)) ∧ w.cell? ⟨ge, k * 3 + 2, none⟩ = some (.string ((f xn yn).getD ByteArray.empty)) := by
  have e : edgeL f q p k = [.pointer (some ⟨q + xn, 0, none⟩), .pointer (some ⟨q + yn, 0, none⟩), .string ((f xn yn).getD ByteArray.empty)] := by simp [edgeL, List.getD, hx, hy]
  have c := fun i (hi : i < 3) => (h.cellAt (k * 3 + i) (by omega)).trans ((edgesC_at f q p hk hi).trans (by rw [e]))
  exact ⟨by simpa using c 0 (by omega), by simpa using c 1 (by omega), by simpa using c 2 (by omega)⟩

theorem matE (n : Nat) (es : List (Int × Int × ByteArray)) : mat n (adjOf es) = mat n (fun i j => Ed (firstWhy es) i j) := by
  congr 1
  funext i j
  exact (firstWhy_adj es i j).symm

/-- A vertex lies on no closed walk, or has a least shortest one: so the search itself shows. -/
theorem G.best {w : World} {a0 : Option Addr} {n : Nat} {ss : List (ByteArray × Int)} {a1 : Option Addr} {len1 : Nat} {es : List (Int × Int × ByteArray)} {gb : Nat} {ga : Option Addr} {sg mb q : Nat} (h : G w a0 n ss a1 len1 es gb ga sg mb q) (st : Int) (hst : (Lit.int .i64 st).wf = true) :
    (∀ c, ¬ Closed n (Ed (firstWhy es)) st c) ∨ ∃ p, Best n (Ed (firstWhy es)) st p ∧ p.Nodup := by
  obtain ⟨e, w', fr, ⟨_, hp⟩, _⟩ := h.path st hst []
  rcases hp with ⟨_, hno⟩ | ⟨_, _, _, p, _, _, _, hb, hd⟩
  · exact .inl hno
  · exact .inr ⟨p, hb, hd⟩

theorem best_len' {n : Nat} {E : Int → Int → Bool} {st : Int} {p : List Int} (hb : Best n E st p) (hnd : p.Nodup) : p.length ≤ n :=
  nodup_le_int n p hnd (fun x hx => by obtain ⟨i, hi, rfl⟩ := List.getElem_of_mem hx; exact hb.1.range (List.getElem?_eq_getElem hi))

/-- zzBackLenHB1 against the first shortest cycle. -/
theorem back20_cmp {w w0 : World} {a0 : Option Addr} {n : Nat} {ss : List (ByteArray × Int)} {a1 : Option Addr} {len1 : Nat} {es : List (Int × Int × ByteArray)} {gb : Nat} {ga : Option Addr} {sg mb q : Nat} (h : G w0 a0 n ss a1 len1 es gb ga sg mb q) (st : Int) (hst : (Lit.int .i64 st).wf = true)
    (ag dg : Nat) (D : Int → Int → Int) (ha : RowAt w 4 ag 0 (n * n) (mat n (fun i j => Ed (firstWhy es) i j))) (hd : RowAt w 3 dg 0 (n * n) (matI n D)) (hD : Dist n (Ed (firstWhy es)) D) (p : List Int) (x1 : Int) (hb1 : Best n (Ed (firstWhy es)) x1 p) (j i1 : Nat)
    (hlt : j < i1 → ∀ c, Closed n (Ed (firstWhy es)) st c → p.length < c.length) (heq : j = i1 → st = x1) (hge : ∀ c, Closed n (Ed (firstWhy es)) st c → p.length ≤ c.length) :
    Calls Try.prog 20 #[.slice (some ⟨ag, 0, none⟩) (n * n) (n * n), .slice (some ⟨dg, 0, none⟩) (n * n) (n * n), .int .i64 n, .int .i64 st] w fun e w' => ∃ l : Nat, e = .returned (.int .i64 l) ∧ w = w' ∧ l ≤ 256 ∧ (j < i1 → l = 0 ∨ p.length < l) ∧ (j = i1 → l = p.length) ∧ (i1 < j → l = 0 ∨ p.length ≤ l) := by
  refine (back20 ag dg n _ D st w ha hd hD h.small).mono ?_
  rintro e w' ⟨l, rfl, ⟨h1, h2⟩, rfl⟩
  have hn := h.small
  rcases h.best st hst with hno | ⟨c, hc, hcd⟩
  · have := h2 hno
    subst this
    exact ⟨0, rfl, rfl, by omega, fun _ => .inl rfl, fun e => absurd (heq e ▸ hb1.1) (hno p), fun _ => .inl rfl⟩
  · have hcl := best_len' hc hcd
    have := h1 c hc hcl
    subst this
    refine ⟨c.length, rfl, rfl, by omega, fun hj => .inr (hlt hj c hc.1), fun e => ?_, fun _ => .inr (hge c hc.1)⟩
    have hs := heq e
    subst hs
    have q1 := sle_len (hc.2 p hb1.1)
    have q2 := sle_len (hb1.2 c hc.1)
    omega

theorem back20_zero {w : World} (n : Nat) (es : List (Int × Int × ByteArray)) (st : Int) (ag dg : Nat) (D : Int → Int → Int) (ha : RowAt w 4 ag 0 (n * n) (mat n (fun i j => Ed (firstWhy es) i j))) (hd : RowAt w 3 dg 0 (n * n) (matI n D)) (hD : Dist n (Ed (firstWhy es)) D) (hn : n ≤ 256)
    (hno : ∀ c, ¬ Closed n (Ed (firstWhy es)) st c) :
    Calls Try.prog 20 #[.slice (some ⟨ag, 0, none⟩) (n * n) (n * n), .slice (some ⟨dg, 0, none⟩) (n * n) (n * n), .int .i64 n, .int .i64 st] w fun e w' => e = .returned (.int .i64 0) ∧ w = w' := by
  refine (back20 ag dg n _ D st w ha hd hD hn).mono ?_
  rintro e w' ⟨l, rfl, ⟨_, h2⟩, rfl⟩
  rw [h2 hno]
  exact ⟨rfl, rfl⟩

end Go.Proofs.Qxb6601988a
