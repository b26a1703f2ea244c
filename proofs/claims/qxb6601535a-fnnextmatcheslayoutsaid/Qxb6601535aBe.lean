/-
  PLAIN: bytes as a number, the greatest first. No Go in sight.
-/
import Derived.Laws.Entries
import Derived.Laws.Bits64
namespace Go.Proofs.Qxb6601535a.Be
open Go

/-- The number that the bytes tell, the greatest first. -/
def be (l : List Int) : Nat := l.foldl (fun u c => u * 256 + c.toNat) 0

/-- Every one a byte. -/
def Byt (l : List Int) : Prop := ∀ j, 0 ≤ l.getD j 0 ∧ l.getD j 0 < 256

theorem be_take_zero (l : List Int) : be (l.take 0) = 0 := rfl

theorem be_take_succ (l : List Int) {k : Nat} (hk : k < l.length) : be (l.take (k + 1)) = be (l.take k) * 256 + (l.getD k 0).toNat := by
  have h : l.take (k + 1) = l.take k ++ [l.getD k 0] := by
    rw [List.take_add_one, List.getElem?_eq_getElem hk]
    simp [List.getD, List.getElem?_eq_getElem hk]
  rw [h]
  unfold be
  rw [List.foldl_append]
  rfl

theorem be_take_lt {l : List Int} (hb : Byt l) : ∀ {k : Nat}, k ≤ l.length → be (l.take k) < 256 ^ k
  | 0, _ => by simp [be]
  | k + 1, hk => by
    have ih := be_take_lt hb (k := k) (by omega)
    rw [be_take_succ l (by omega), Nat.pow_succ]
    have := hb k
    omega

theorem be_lt {l : List Int} (hb : Byt l) : be l < 256 ^ l.length := by
  have h := be_take_lt hb (Nat.le_refl l.length)
  rwa [List.take_length] at h

theorem pow_le_8 {k : Nat} (hk : k ≤ 8) : 256 ^ k ≤ 18446744073709551616 := by
  have h : (256 : Nat) ^ k ≤ 256 ^ 8 := Nat.pow_le_pow_right (by omega) hk
  exact h

theorem be_lt64 {l : List Int} (hb : Byt l) (h8 : l.length ≤ 8) : be l < 18446744073709551616 := Nat.lt_of_lt_of_le (be_lt hb) (pow_le_8 h8)

theorem Byt.sub {l : List Int} (hb : Byt l) (i k : Nat) : Byt ((l.drop i).take k) := by
  intro j
  by_cases hj : j < k
  · have : ((l.drop i).take k).getD j 0 = l.getD (i + j) 0 := by
      simp only [List.getD, List.getElem?_take, hj, if_true, List.getElem?_drop]
    rw [this]
    exact hb _
  · have : ((l.drop i).take k).getD j 0 = 0 := by
      simp only [List.getD, List.getElem?_take, hj, if_false]
      rfl
    rw [this]
    omega

theorem getD_drop (l : List Int) (i j : Nat) : (l.drop i).getD j 0 = l.getD (i + j) 0 := by
  simp only [List.getD, List.getElem?_drop]
theorem getD_take (l : List Int) {j k : Nat} (hj : j < k) : (l.take k).getD j 0 = l.getD j 0 := by
  simp only [List.getD, List.getElem?_take, hj, if_true]

/-- What the law's own encoder asks, a byte at a time from the end. -/
theorem enc_step {l : List Int} (hb : Byt l) {t : Nat} (ht : t < l.length) (v : Nat) : be (l.take (t + 1)) = v ↔ l.getD t 0 = ((v % 256 : Nat) : Int) ∧ be (l.take t) = v / 256 := by
  rw [be_take_succ l ht]
  have := hb t
  omega

/-- The digits of v, as many as fit. -/
theorem be_digits {l : List Int} {v : Nat} (hd : ∀ i, i < l.length → l.getD i 0 = ((v / 256 ^ (l.length - 1 - i) % 256 : Nat) : Int)) (hv : v < 256 ^ l.length) : be l = v := by
  have h : ∀ k, k ≤ l.length → be (l.take k) = v / 256 ^ (l.length - k) := by
    intro k
    induction k with
    | zero => intro _; rw [be_take_zero, Nat.sub_zero, Nat.div_eq_of_lt hv]
    | succ k ih =>
      intro hk
      rw [be_take_succ l (by omega), ih (by omega), hd k (by omega), Int.toNat_natCast]
      have e1 : l.length - 1 - k = l.length - (k + 1) := by omega
      have e2 : l.length - k = (l.length - (k + 1)) + 1 := by omega
      rw [e1, e2, Nat.pow_succ, ← Nat.div_div_eq_div_mul]
      generalize v / 256 ^ (l.length - (k + 1)) = X
      omega
  have h1 := h l.length (Nat.le_refl _)
  rw [List.take_length, Nat.sub_self, Nat.pow_zero, Nat.div_one] at h1
  exact h1

/-- m leading zeros, and then none. -/
structure Lead (l : List Int) (m : Nat) : Prop where
  le : m ≤ l.length
  zeros : ∀ j, j < m → l.getD j 0 = 0
  stop : m < l.length → l.getD m 0 ≠ 0

theorem lead_exists : ∀ (l : List Int), ∃ m, Lead l m
  | [] => ⟨0, ⟨Nat.le_refl _, fun j hj => by omega, fun h => by simp at h⟩⟩
  | x :: r => by
    by_cases h : x = 0
    · obtain ⟨m, hm⟩ := lead_exists r
      refine ⟨m + 1, ⟨by have := hm.le; simp; omega, fun j hj => ?_, fun hl => ?_⟩⟩
      · cases j with
        | zero => simpa using h
        | succ j => simpa using hm.zeros j (by omega)
      · simpa using hm.stop (by simpa using hl)
    · exact ⟨0, ⟨Nat.zero_le _, fun j hj => by omega, fun _ => by simpa using h⟩⟩

theorem Lead.uniq {l : List Int} {m m' : Nat} (h : Lead l m) (h' : Lead l m') : m = m' := by
  rcases Nat.lt_trichotomy m m' with h1 | h1 | h1
  · exact absurd (h'.zeros m h1) (h.stop (by have := h'.le; omega))
  · exact h1
  · exact absurd (h.zeros m' h1) (h'.stop (by have := h.le; omega))

/-- Where no option is read. -/
def Stop (cs ls m : Nat) (pad : Bool) (bs : List Int) : Prop :=
  (pad = true ∧ m < bs.length ∧ bs.getD m 0 = 255) ∨ bs.length < m + (cs + ls) ∨ (0 < ls ∧ bs.length < m + (cs + ls) + be ((bs.drop (m + cs)).take ls))

/-- The payload's length. -/
def pay (cs ls m : Nat) (bs : List Int) : Nat := if ls = 0 then bs.length - (m + (cs + ls)) else be ((bs.drop (m + cs)).take ls)

/-- u << 8 | c -/
theorem or_byte {u c : Nat} (hu : u * 256 < 18446744073709551616) (hc : c < 256) : bits .or .u64 ((u * 256 : Nat) : Int) (c : Int) = ((u * 256 + c : Nat) : Int) := by
  have h1 : u * 256 < 2 ^ 64 := hu
  have h2 : c < 2 ^ 64 := by omega
  have e0 : u * 256 ||| c = u * 256 + c := by
    have h := Nat.shiftLeft_add_eq_or_of_lt (show c < 2 ^ 8 from hc) u
    rw [Nat.shiftLeft_eq] at h
    exact h.symm
  have e : (BitVec.ofInt 64 ((u * 256 : Nat) : Int) ||| BitVec.ofInt 64 (c : Int)).toNat = u * 256 + c := by
    rw [BitVec.toNat_or, BitVec.ofInt_natCast, BitVec.ofInt_natCast, BitVec.toNat_ofNat, BitVec.toNat_ofNat, Nat.mod_eq_of_lt h1, Nat.mod_eq_of_lt h2, e0]
  show IntKind.u64.wrap (((BitVec.ofInt 64 ((u * 256 : Nat) : Int) ||| BitVec.ofInt 64 (c : Int)).toNat : Nat) : Int) = _
  rw [e, IntKind.wrap_u64]
  omega

end Go.Proofs.Qxb6601535a.Be
