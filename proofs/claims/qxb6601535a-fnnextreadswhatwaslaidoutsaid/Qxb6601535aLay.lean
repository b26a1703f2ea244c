/-
  PLAIN: an option laid out: pads, code, length, payload, rest.
-/
import Derived.Test.Qxb6601535aBe
namespace Go.Proofs.Qxb6601535a.Be

/-- Digit e of v. -/
def dig (v e : Nat) : Int := ((v / 256 ^ e % 256 : Nat) : Int)

def layF (pd cs ls cd n : Nat) (ps rs : List Int) (i : Nat) : Int :=
  if i < pd then 0 else if i < pd + cs then dig cd (pd + cs - 1 - i) else if i < pd + (cs + ls) then dig n (pd + (cs + ls) - 1 - i)
  else if i < pd + (cs + ls) + n then ps.getD (i - (pd + (cs + ls))) 0 else rs.getD (i - (pd + (cs + ls) + n)) 0

/-- The bytes laid. -/
def lay (pd cs ls cd n N : Nat) (ps rs : List Int) : List Int := (List.range N).map (layF pd cs ls cd n ps rs)

theorem ext_getD {l l' : List Int} (h : l.length = l'.length) (hg : ∀ i, i < l.length → l.getD i 0 = l'.getD i 0) : l = l' := by
  apply List.ext_getElem h
  intro i h1 h2
  have := hg i h1
  simpa [List.getD, List.getElem?_eq_getElem h1, List.getElem?_eq_getElem h2] using this

section
variable {pd cs ls cd n m N : Nat} {ps rs : List Int}

theorem lay_length : (lay pd cs ls cd n N ps rs).length = N := by simp [lay]
theorem lay_getD {i : Nat} (hi : i < N) : (lay pd cs ls cd n N ps rs).getD i 0 = layF pd cs ls cd n ps rs i := by simp [lay, List.getD, hi]

theorem sub_getD (l : List Int) {i k j : Nat} (hj : j < k) : ((l.drop i).take k).getD j 0 = l.getD (i + j) 0 := by
  simp only [List.getD, List.getElem?_take, hj, if_true, List.getElem?_drop]

theorem lay_code (hN : pd + cs ≤ N) (hcd : cd < 256 ^ cs) : be (((lay pd cs ls cd n N ps rs).drop pd).take cs) = cd := by
  have hl : (((lay pd cs ls cd n N ps rs).drop pd).take cs).length = cs := by rw [List.length_take, List.length_drop, lay_length]; omega
  apply be_digits
  · intro i hi
    rw [hl] at hi ⊢
    rw [sub_getD _ hi, lay_getD (by omega), layF, if_neg (by omega), if_pos (by omega), show pd + cs - 1 - (pd + i) = cs - 1 - i by omega]
    rfl
  · rw [hl]; exact hcd

theorem lay_len (hN : pd + (cs + ls) ≤ N) (hn : n < 256 ^ ls) : be (((lay pd cs ls cd n N ps rs).drop (pd + cs)).take ls) = n := by
  have hl : (((lay pd cs ls cd n N ps rs).drop (pd + cs)).take ls).length = ls := by rw [List.length_take, List.length_drop, lay_length]; omega
  apply be_digits
  · intro i hi
    rw [hl] at hi ⊢
    rw [sub_getD _ hi, lay_getD (by omega), layF, if_neg (by omega), if_neg (by omega), if_pos (by omega), show pd + (cs + ls) - 1 - (pd + cs + i) = ls - 1 - i by omega]
    rfl
  · rw [hl]; exact hn

theorem lay_payload (hp : ps.length = n) (hN : pd + (cs + ls) + n ≤ N) : ((lay pd cs ls cd n N ps rs).drop (pd + (cs + ls))).take n = ps := by
  have hl : (((lay pd cs ls cd n N ps rs).drop (pd + (cs + ls))).take n).length = n := by rw [List.length_take, List.length_drop, lay_length]; omega
  apply ext_getD (by rw [hl, hp])
  intro i hi
  rw [hl] at hi
  rw [sub_getD _ hi, lay_getD (by omega), layF, if_neg (by omega), if_neg (by omega), if_neg (by omega), if_pos (by omega)]
  congr 1
  omega

theorem lay_rest (hr : rs.length = m) (hN : N = pd + (cs + ls) + n + m) : (lay pd cs ls cd n N ps rs).drop (pd + (cs + ls) + n) = rs := by
  have hl : ((lay pd cs ls cd n N ps rs).drop (pd + (cs + ls) + n)).length = m := by rw [List.length_drop, lay_length]; omega
  apply ext_getD (by rw [hl, hr])
  intro i hi
  rw [hl] at hi
  rw [getD_drop, lay_getD (by omega), layF, if_neg (by omega), if_neg (by omega), if_neg (by omega), if_neg (by omega)]
  congr 1
  omega

theorem dig_byte (v e : Nat) : 0 ≤ dig v e ∧ dig v e < 256 := by
  unfold dig
  omega

theorem layF_byte (hps : Byt ps) (hrs : Byt rs) (i : Nat) : 0 ≤ layF pd cs ls cd n ps rs i ∧ layF pd cs ls cd n ps rs i < 256 := by
  unfold layF
  split
  · omega
  · split
    · exact dig_byte _ _
    · split
      · exact dig_byte _ _
      · split
        · exact hps _
        · exact hrs _

theorem lay_lead (hN : pd < N) (hx : layF pd cs ls cd n ps rs pd ≠ 0) : Lead (lay pd cs ls cd n N ps rs) pd where
  le := by rw [lay_length]; omega
  zeros j hj := by rw [lay_getD (by omega), layF, if_pos hj]
  stop _ := by rw [lay_getD hN]; exact hx

/-- What the shift tests come to. -/
theorem fits {v k : Nat} (hk : k ≤ 8) (hv : v < 18446744073709551616) (h : ¬ (k < 8 ∧ v / 2 ^ (8 * k) ≠ 0)) : v < 256 ^ k := by
  by_cases h8 : k < 8
  · have h0 : v / 2 ^ (8 * k) = 0 := by
      rcases Nat.eq_zero_or_pos (v / 2 ^ (8 * k)) with h1 | h1
      · exact h1
      · exact absurd ⟨h8, by omega⟩ h
    have hp : (0 : Nat) < 2 ^ (8 * k) := Nat.pow_pos (by omega)
    have := (Nat.div_eq_zero_iff_lt hp).1 h0
    rwa [Nat.pow_mul] at this
  · obtain rfl : k = 8 := by omega
    exact hv

theorem shr_test (v k : Nat) : (((v : Int) / 2 ^ (8 * k)) != 0) = decide (v / 2 ^ (8 * k) ≠ 0) := by
  have h : ((v : Int) / 2 ^ (8 * k)) = ((v / 2 ^ (8 * k) : Nat) : Int) := by simp
  rw [h]
  generalize v / 2 ^ (8 * k) = X
  by_cases hX : X = 0
  · subst hX; rfl
  · simp [hX]

/-- No stop, and the payload's length. -/
theorem lay_goes {p : Bool} (hN : N = pd + (cs + ls) + n + m) (hx : ¬ (p = true ∧ layF pd cs ls cd n ps rs pd = 255)) (h1 : 1 ≤ cs + ls) (hn : 0 < ls → n < 256 ^ ls) (h0 : ls = 0 → m = 0) :
    ¬ Stop cs ls pd p (lay pd cs ls cd n N ps rs) ∧ pay cs ls pd (lay pd cs ls cd n N ps rs) = n := by
  constructor
  · rintro (⟨h, _, h'⟩ | h | ⟨h, h'⟩)
    · rw [lay_getD (by omega)] at h'
      exact hx ⟨h, h'⟩
    · rw [lay_length] at h
      omega
    · rw [lay_length, lay_len (by omega) (hn h)] at h'
      omega
  · unfold pay
    by_cases hl : ls = 0
    · rw [if_pos hl, lay_length]
      have := h0 hl
      omega
    · rw [if_neg hl, lay_len (by omega) (hn (by omega))]

end

end Go.Proofs.Qxb6601535a.Be
