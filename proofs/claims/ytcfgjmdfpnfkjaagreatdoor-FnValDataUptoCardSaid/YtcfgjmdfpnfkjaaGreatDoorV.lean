/- Parts of the proof of the statement that this folder hands in: lemmas and contracts (V). -/
import Derived.Test.YtcfgjmdfpnfkjaaGreatDoorS
import Derived.Laws.FloatArith
set_option linter.unusedSimpArgs false
set_option linter.unusedVariables false
set_option linter.unusedSimpArgs false
namespace Go.Proofs.YtcfgjmdfpnfkjaaGreatDoor
open Go.RowKit

/-- A word that is no NaN. -/
def WN (x : Nat) : Prop := ∃ (neg : Bool) (r : Nat), r ≤ 9218868437227405312 ∧ x = if neg then 9223372036854775808 + r else r
theorem read_wn {x : Nat} (h : WN x) : (∃ s m i, Ieee.double.read x = .number s m i) ∨ (∃ s, Ieee.double.read x = .infinity s) := by
  obtain ⟨neg, r, hr, rfl⟩ := h
  have hm : (if neg then 9223372036854775808 + r else r) % Ieee.double.signWeight = r := by
    have : Ieee.double.signWeight = 9223372036854775808 := by decide
    rw [this]
    cases neg <;> simp <;> omega
  have hi : Ieee.double.infRung = 9218868437227405312 := by decide
  unfold Ieee.Format.read
  simp only [hm, hi]
  split
  · exact Or.inl ⟨_, _, _, rfl⟩
  · split
    · exact Or.inl ⟨_, _, _, rfl⟩
    · have : r = 9218868437227405312 := by omega
      rw [if_pos this]
      exact Or.inr ⟨_, rfl⟩
theorem word_wn (neg : Bool) {r : Nat} (h : r ≤ Ieee.double.infRung) : WN (Ieee.double.word neg r) := by
  have hi : Ieee.double.infRung = 9218868437227405312 := by decide
  have hs : Ieee.double.signWeight = 9223372036854775808 := by decide
  exact ⟨neg, r, by omega, by unfold Ieee.Format.word; rw [hs]⟩
theorem number_wn (s : Bool) (m : Nat) (i : Int) : WN (Ieee.double.write (.number s m i)) := by
  unfold Ieee.Format.write Ieee.Format.nearest
  simp only
  split
  · exact word_wn _ (Nat.zero_le _)
  · exact word_wn _ (Nat.min_le_right _ _)
theorem inf_wn (s : Bool) : WN (Ieee.double.write (.infinity s)) := word_wn _ (Nat.le_refl _)
/-- A word of a number, not 0. -/
def NZ (y : Nat) : Prop := ∃ s m i, Ieee.double.read y = .number s m i ∧ m ≠ 0
theorem mul_wn {x y : Nat} (hx : WN x) (hy : NZ y) : ∃ r, floatBits .mul .f64 x y = some r ∧ WN r := by
  obtain ⟨t, n, j, e, hn⟩ := hy
  have h : floatBits .mul .f64 x y = Ieee.double.mul x y := rfl
  rw [h]
  unfold Ieee.Format.mul
  rcases read_wn hx with ⟨s, m, i, e1⟩ | ⟨s, e1⟩
  · rw [e1, e]; exact ⟨_, rfl, number_wn _ _ _⟩
  · rw [e1, e]; simp only [Ieee.Datum.product, if_neg hn]; exact ⟨_, rfl, inf_wn _⟩
theorem quo_wn {x y : Nat} (hx : WN x) (hy : NZ y) : ∃ r, floatBits .quo .f64 x y = some r ∧ WN r := by
  obtain ⟨t, n, j, e, hn⟩ := hy
  have h : floatBits .quo .f64 x y = Ieee.double.div x y := rfl
  rw [h]
  unfold Ieee.Format.div
  rcases read_wn hx with ⟨s, m, i, e1⟩ | ⟨s, e1⟩
  · rw [e1, e]; simp only [Ieee.Datum.quotient, if_neg hn]; exact ⟨_, rfl, number_wn _ _ _⟩
  · rw [e1, e]; simp only [Ieee.Datum.quotient]; exact ⟨_, rfl, inf_wn _⟩
theorem xor_top {r : Nat} (h : r < 2 ^ 63) : r ^^^ 2 ^ 63 = 2 ^ 63 + r := by
  have e1 := Nat.two_pow_add_eq_or_of_lt h 1
  rw [Nat.mul_one] at e1
  rw [e1]
  apply Nat.eq_of_testBit_eq
  intro i
  rw [Nat.testBit_xor, Nat.testBit_or, Nat.testBit_two_pow]
  by_cases e : 63 = i
  · subst e
    rw [Nat.testBit_lt_two_pow h]; rfl
  · simp [e]
theorem neg_wn {x : Nat} (h : WN x) : WN (Op.negFloat .f64 x) := by
  obtain ⟨neg, r, hr, rfl⟩ := h
  have hx := xor_top (show r < 2 ^ 63 by omega)
  refine ⟨!neg, r, hr, ?_⟩
  show (if neg then 9223372036854775808 + r else r) ^^^ 2 ^ 63 = _
  cases neg
  · simp only [Bool.not_false, if_true]; exact hx
  · simp only [Bool.not_true, if_true]
    have : (9223372036854775808 + r) = r ^^^ 2 ^ 63 := hx.symm
    rw [this, Nat.xor_assoc, Nat.xor_self, Nat.xor_zero]
    rfl
theorem ofInt_wn (n : Int) : WN (floatOfInt .f64 n) := number_wn _ _ _
end Go.Proofs.YtcfgjmdfpnfkjaaGreatDoor
