/-
  PLAIN: a numeral read digit by digit; what stands at a place of a text.
-/
import Derived.Test.Qxb6601988aDoorPlain
namespace Go.Proofs.Qxb6601988aDoor

/-- The first k digits of u's numeral, read. -/
def acc (u k : Nat) : Nat := u / 10 ^ (Lib.nDigits u - k)
def dig (u k : Nat) : Nat := u / 10 ^ (Lib.nDigits u - 1 - k) % 10

theorem acc_zero (u : Nat) : acc u 0 = 0 := by
  rw [acc, Nat.sub_zero]
  exact Nat.div_eq_of_lt (Lib.lt_pow_nDigits u)

theorem acc_all (u : Nat) : acc u (Lib.nDigits u) = u := by rw [acc, Nat.sub_self]; simp

theorem acc_le (u k : Nat) : acc u k ≤ u := Nat.div_le_self _ _

theorem dig_lt (u k : Nat) : dig u k < 10 := Nat.mod_lt _ (by decide)

theorem acc_succ {u k : Nat} (h : k < Lib.nDigits u) : acc u (k + 1) = acc u k * 10 + dig u k := by
  unfold acc dig
  rw [show Lib.nDigits u - (k + 1) = Lib.nDigits u - 1 - k by omega, show Lib.nDigits u - k = (Lib.nDigits u - 1 - k) + 1 by omega, Nat.pow_succ, ← Nat.div_div_eq_div_mul]
  omega

theorem digit_at {u k : Nat} (h : k < Lib.nDigits u) : ∃ c, (Lib.decDigits u)[k]? = some c ∧ c.toNat = 48 + dig u k := by
  rw [Lib.decDigits_eq, List.getElem?_map, List.getElem?_range h]
  refine ⟨_, rfl, ?_⟩
  have := dig_lt u k
  unfold dig at this ⊢
  simp only [Lib.dg]
  rw [UInt8.toNat_ofNat']
  omega

/-- l stands in s from i on. -/
def At (s : ByteArray) (i : Nat) (l : List UInt8) : Prop := ∀ (j : Nat) c, l[j]? = some c → s.data.toList[i + j]? = some c

theorem At.left {s : ByteArray} {i : Nat} {a b : List UInt8} (h : At s i (a ++ b)) : At s i a := fun j c hc => h j c (by rw [List.getElem?_append_left (List.getElem?_eq_some_iff.1 hc).1]; exact hc)

theorem At.right {s : ByteArray} {i : Nat} {a b : List UInt8} (h : At s i (a ++ b)) : At s (i + a.length) b := fun j c hc => by
  have := h (a.length + j) c (by rw [List.getElem?_append_right (by omega), Nat.add_sub_cancel_left]; exact hc)
  rwa [← Nat.add_assoc] at this

theorem At.lt {s : ByteArray} {i : Nat} {l : List UInt8} (h : At s i l) {j : Nat} (hj : j < l.length) : i + j < s.size := by
  have := h j _ (List.getElem?_eq_getElem hj)
  rw [← size_toList]
  exact (List.getElem?_eq_some_iff.1 this).1

theorem At.get {s : ByteArray} {i : Nat} {l : List UInt8} (h : At s i l) {j : Nat} {c : UInt8} (hc : l[j]? = some c) : ∃ hlt : i + j < s.size, s[i + j] = c := by
  have h1 := h j c hc
  have h2 := (List.getElem?_eq_some_iff.1 h1).1
  rw [size_toList] at h2
  refine ⟨h2, ?_⟩
  rw [List.getElem?_eq_getElem (by rw [size_toList]; exact h2)] at h1
  exact Option.some.inj h1

theorem At.cons {s : ByteArray} {i : Nat} {c : UInt8} {l : List UInt8} (h : At s i (c :: l)) : (∃ hlt : i < s.size, s[i] = c) ∧ At s (i + 1) l := by
  refine ⟨?_, fun j d hd => ?_⟩
  · have := h.get (j := 0) (c := c) rfl
    simpa using this
  · have := h (j + 1) d (by simpa using hd)
    rwa [show i + (j + 1) = i + 1 + j by omega] at this

theorem At.whole (s : ByteArray) : At s 0 s.data.toList := fun j c hc => by rw [Nat.zero_add]; exact hc

theorem pow_le (u : Nat) (h : 1 ≤ u) : 10 ^ (Lib.nDigits u - 1) ≤ u := by
  induction u using Nat.strongRecOn with
  | _ u ih =>
    by_cases h10 : u < 10
    · rw [Lib.nDigits_small h10]; simpa using h
    · rw [Lib.nDigits_big h10, Nat.add_sub_cancel]
      have h1 := ih (u / 10) (by omega) (by omega)
      have h2 := Lib.nDigits_pos (u / 10)
      rw [show Lib.nDigits (u / 10) = (Lib.nDigits (u / 10) - 1) + 1 by omega, Nat.pow_succ]
      omega

/-- No numeral of more than one digit begins with 0. -/
theorem dig_first {u : Nat} (h : 1 < Lib.nDigits u) : dig u 0 ≠ 0 := by
  have h0 : 1 ≤ u := by
    rcases Nat.eq_zero_or_pos u with h0 | h0
    · subst h0
      rw [Lib.nDigits_small (by decide)] at h
      omega
    · exact h0
  have h1 := pow_le u h0
  have h2 := acc_succ (u := u) (k := 0) (by omega)
  rw [acc_zero] at h2
  have h3 : acc u 1 = u / 10 ^ (Lib.nDigits u - 1) := rfl
  have h4 : 1 ≤ u / 10 ^ (Lib.nDigits u - 1) := (Nat.one_le_div_iff (Nat.pow_pos (by decide))).2 h1
  have h5 : acc u (0 + 1) = acc u 1 := rfl
  omega

def NoDig (s : ByteArray) (j : Nat) : Prop := ∀ h : j < s.size, ¬ (48 ≤ (s[j]).toNat ∧ (s[j]).toNat ≤ 57)

end Go.Proofs.Qxb6601988aDoor
