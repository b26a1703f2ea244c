/-
  PLAIN: four words of 64 bits as a set of codes below 256.
-/
import Derived.Test.Qxb6601535aLinkPlain
import Derived.Laws.Entries
import Derived.Laws.Bits64
namespace Go.Proofs.Qxb6601535a.Link
open Go

/-- Word q of the codes of the first i offsets. -/
def word (cs : Nat → Nat) : Nat → Nat → Nat
  | 0, _ => 0
  | i + 1, q => if q = cs i / 64 then word cs i q ||| 2 ^ (cs i % 64) else word cs i q

theorem word_lt (cs : Nat → Nat) : ∀ (i q : Nat), word cs i q < 2 ^ 64
  | 0, q => by simp [word]
  | i + 1, q => by
    unfold word
    by_cases h : q = cs i / 64
    · rw [if_pos h]
      exact Nat.or_lt_two_pow (word_lt cs i q) (Nat.pow_lt_pow_right (by omega) (Nat.mod_lt _ (by omega)))
    · rw [if_neg h]
      exact word_lt cs i q

theorem word_bit (cs : Nat → Nat) (c : Nat) : ∀ (i : Nat), (word cs i (c / 64)).testBit (c % 64) = (List.range i).any fun j => cs j == c
  | 0 => by simp [word]
  | i + 1 => by
    have ih := word_bit cs c i
    rw [List.range_succ, List.any_append, ← ih]
    rw [word]
    by_cases h : c / 64 = cs i / 64
    · rw [if_pos h, Nat.testBit_or, Nat.testBit_two_pow]
      have : decide (cs i % 64 = c % 64) = (cs i == c) := by
        rw [Bool.eq_iff_iff, decide_eq_true_eq, beq_iff_eq]
        omega
      rw [this]
      simp
    · rw [if_neg h]
      have : (cs i == c) = false := by
        rw [beq_eq_false_iff_ne]
        intro e
        exact h (by rw [e])
      simp [this]

theorem wrap_u64_nat {y : Nat} (h : y < 2 ^ 64) : IntKind.u64.wrap (y : Int) = (y : Int) := by
  rw [IntKind.wrap_u64]
  omega

theorem and_bit {x b : Nat} (hx : x < 2 ^ 64) (hb : b < 64) : bits .and .u64 (x : Int) ((2 ^ b : Nat) : Int) = ((x &&& 2 ^ b : Nat) : Int) := by
  have hp : (2 : Nat) ^ b < 2 ^ 64 := Nat.pow_lt_pow_right (by omega) hb
  have ha : x &&& 2 ^ b < 2 ^ 64 := Nat.and_lt_two_pow _ hp
  have e : (BitVec.ofInt 64 (x : Int) &&& BitVec.ofInt 64 ((2 ^ b : Nat) : Int)).toNat = x &&& 2 ^ b := by
    rw [BitVec.toNat_and, BitVec.ofInt_natCast, BitVec.ofInt_natCast, BitVec.toNat_ofNat, BitVec.toNat_ofNat, Nat.mod_eq_of_lt hx, Nat.mod_eq_of_lt hp]
  show IntKind.u64.wrap (((BitVec.ofInt 64 (x : Int) &&& BitVec.ofInt 64 ((2 ^ b : Nat) : Int)).toNat : Nat) : Int) = _
  rw [e, wrap_u64_nat ha]

theorem or_bit {x b : Nat} (hx : x < 2 ^ 64) (hb : b < 64) : bits .or .u64 (x : Int) ((2 ^ b : Nat) : Int) = ((x ||| 2 ^ b : Nat) : Int) := by
  have hp : (2 : Nat) ^ b < 2 ^ 64 := Nat.pow_lt_pow_right (by omega) hb
  have ha : x ||| 2 ^ b < 2 ^ 64 := Nat.or_lt_two_pow hx hp
  have e : (BitVec.ofInt 64 (x : Int) ||| BitVec.ofInt 64 ((2 ^ b : Nat) : Int)).toNat = x ||| 2 ^ b := by
    rw [BitVec.toNat_or, BitVec.ofInt_natCast, BitVec.ofInt_natCast, BitVec.toNat_ofNat, BitVec.toNat_ofNat, Nat.mod_eq_of_lt hx, Nat.mod_eq_of_lt hp]
  show IntKind.u64.wrap (((BitVec.ofInt 64 (x : Int) ||| BitVec.ofInt 64 ((2 ^ b : Nat) : Int)).toNat : Nat) : Int) = _
  rw [e, wrap_u64_nat ha]

theorem and_bit_zero {x b : Nat} : (((x &&& 2 ^ b : Nat) : Int) != 0) = x.testBit b := by
  have h0 : (x &&& 2 ^ b).testBit b = x.testBit b := by simp [Nat.testBit_and]
  cases h : x.testBit b
  · have : x &&& 2 ^ b = 0 := by
      apply Nat.eq_of_testBit_eq
      intro i
      rw [Nat.testBit_and, Nat.testBit_two_pow, Nat.zero_testBit]
      by_cases e : b = i
      · subst e; simp [h]
      · simp [e]
    rw [this]
    rfl
  · have : x &&& 2 ^ b ≠ 0 := by
      intro e
      rw [e, h, Nat.zero_testBit] at h0
      cases h0
    simpa using this

theorem rep_bit (cs : Nat → Nat) (i : Nat) : rep cs (i + 1) = (rep cs i || (word cs i (cs i / 64)).testBit (cs i % 64)) := by
  rw [rep_step, word_bit]

end Go.Proofs.Qxb6601535a.Link
