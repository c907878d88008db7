/- Parts of the proof of the statement that this folder hands in: lemmas and contracts (Wa). -/
import Derived.Test.YtcfgjmdfpnfkjaaGreatDoorW
set_option linter.unusedSimpArgs false
set_option linter.unusedVariables false
set_option linter.unusedSimpArgs false
namespace Go.Proofs.YtcfgjmdfpnfkjaaGreatDoor
open Go.RowKit

set_option maxRecDepth 100000 in
set_option maxHeartbeats 8000000 in
theorem exact_high (F : Nat → Nat) (R : Nat × Nat) (m : Int) (j : Nat) (neg : Bool) (w : World) (hm : 0 ≤ m) (hE : Exact F R w) (hb : (m / 4503599627370496 != 0) = false) (h0 : 22 < (j : Int)) (h22 : (j : Int) ≤ 37) : ExactC F m j neg w := by
  obtain ⟨v8, row, nz, m5, e5, b5⟩ := hE
  unfold ExactC
  have hX : Sd (exF F m j neg = if bigB (mulD (f0F m neg) (F (j - 22))) = true then (mulD (f0F m neg) (F (j - 22)), false) else (mulD (mulD (f0F m neg) (F (j - 22))) (F 22), true)) := ⟨by
    unfold exF; rw [if_neg (by rw [hb]; simp), if_neg (by omega), if_pos ⟨h0, h22⟩]
    have : ((j : Int) - 22).toNat = j - 22 := by omega
    rw [this]⟩
  generalize exF F m j neg = X at hX
  obtain ⟨hmul, hw⟩ := mulD_wn (f0_wn m neg) (nz (j - 22) (by omega))
  obtain ⟨hmul2, hw2⟩ := mulD_wn hw (nz 22 (by omega))
  have hrun := run_float_arith (P := Tryz.prog) w .mul 44 .f64 _ _ _ hmul
  have hrun2 := run_float_arith (P := Tryz.prog) w .mul 44 .f64 _ _ _ hmul2
  have hjn : wrap64 ((j : Int) - 22) = ((j - 22 : Nat) : Int) := by unfold wrap64; omega
  have rj := row (j - 22) (by omega)
  have r22 := row 22 (by omega)
  have hj : decide (j - 22 < 23) = true := by simp; omega
  have hneg := run_negF (floatOfInt .f64 m) w
  clear row nz e5 b5 hmul hw hmul2 hw2
  cases neg
  · rw [f0_f] at hrun hrun2 hX
    cases q1 : (FloatKind.f64.format.order (mulD (floatOfInt .f64 m) (F (j - 22))) 4831355200913801216 == some Ordering.gt)
    · cases q2 : (FloatKind.f64.format.order (mulD (floatOfInt .f64 m) (F (j - 22))) 14054727237768577024 == some Ordering.lt)
      · have hX' := Sd.mk (hX.out.trans (if_neg (by simp only [bigB, q1, q2]; decide)))
        clear hX
        go_enter Tryz.func99, Tryz.ntmps99
        go_wp2_with fail
        go_ret2
        exact ⟨ret_x hX'.out, rfl⟩
      · have hX' := Sd.mk (hX.out.trans (if_pos (by simp only [bigB, q1, q2]; decide)))
        clear hX
        go_enter Tryz.func99, Tryz.ntmps99
        go_wp2_with fail
        go_ret2
        exact ⟨ret_x hX'.out, rfl⟩
    · have hX' := Sd.mk (hX.out.trans (if_pos (by simp only [bigB, q1]; rfl)))
      clear hX
      go_enter Tryz.func99, Tryz.ntmps99
      go_wp2_with fail
      go_ret2
      exact ⟨ret_x hX'.out, rfl⟩
  · rw [f0_t] at hrun hrun2 hX
    cases q1 : (FloatKind.f64.format.order (mulD (Op.negFloat .f64 (floatOfInt .f64 m)) (F (j - 22))) 4831355200913801216 == some Ordering.gt)
    · cases q2 : (FloatKind.f64.format.order (mulD (Op.negFloat .f64 (floatOfInt .f64 m)) (F (j - 22))) 14054727237768577024 == some Ordering.lt)
      · have hX' := Sd.mk (hX.out.trans (if_neg (by simp only [bigB, q1, q2]; decide)))
        clear hX
        go_enter Tryz.func99, Tryz.ntmps99
        go_wp2_with fail
        go_ret2
        exact ⟨ret_x hX'.out, rfl⟩
      · have hX' := Sd.mk (hX.out.trans (if_pos (by simp only [bigB, q1, q2]; decide)))
        clear hX
        go_enter Tryz.func99, Tryz.ntmps99
        go_wp2_with fail
        go_ret2
        exact ⟨ret_x hX'.out, rfl⟩
    · have hX' := Sd.mk (hX.out.trans (if_pos (by simp only [bigB, q1]; rfl)))
      clear hX
      go_enter Tryz.func99, Tryz.ntmps99
      go_wp2_with fail
      go_ret2
      exact ⟨ret_x hX'.out, rfl⟩

set_option maxRecDepth 100000 in
set_option maxHeartbeats 8000000 in
theorem exact_low (F : Nat → Nat) (R : Nat × Nat) (m : Int) (j : Nat) (neg : Bool) (w : World) (hm : 0 ≤ m) (hE : Exact F R w) (hb : (m / 4503599627370496 != 0) = false) (h0 : 0 < j) (h22 : j ≤ 22) : ExactC F m (-(j : Int)) neg w := by
  obtain ⟨v8, row, nz, m5, e5, b5⟩ := hE
  unfold ExactC
  have hX : Sd (exF F m (-(j : Int)) neg = (quoD (f0F m neg) (F j), true)) := ⟨by
    unfold exF; rw [if_neg (by rw [hb]; simp), if_neg (by omega), if_neg (by omega), if_neg (by omega), if_pos ⟨by omega, by omega⟩]
    have : (-(-(j : Int))).toNat = j := by omega
    rw [this]⟩
  generalize exF F m (-(j : Int)) neg = X at hX
  obtain ⟨hmul, hw⟩ := quoD_wn (f0_wn m neg) (nz j (by omega))
  have hrun := run_float_arith (P := Tryz.prog) w .quo 44 .f64 _ _ _ hmul
  have hjn : wrap64 (-(-(j : Int))) = (j : Int) := by unfold wrap64; omega
  have rj := row j (by omega)
  have hj : decide (j < 23) = true := by simp; omega
  have hneg := run_negF (floatOfInt .f64 m) w
  clear row nz e5 b5 hmul hw
  have hX' := hX
  clear hX
  cases neg
  · rw [f0_f] at hrun hX'
    go_enter Tryz.func99, Tryz.ntmps99
    go_wp2_with fail
    go_ret2
    exact ⟨ret_x hX'.out, rfl⟩
  · rw [f0_t] at hrun hX'
    go_enter Tryz.func99, Tryz.ntmps99
    go_wp2_with fail
    go_ret2
    exact ⟨ret_x hX'.out, rfl⟩

set_option maxRecDepth 100000 in
set_option maxHeartbeats 8000000 in
theorem exact_out (F : Nat → Nat) (R : Nat × Nat) (m e : Int) (neg : Bool) (w : World) (hm : 0 ≤ m) (hE : Exact F R w) (hb : (m / 4503599627370496 != 0) = false) (h0 : 37 < e ∨ e < -22) : ExactC F m e neg w := by
  obtain ⟨v8, row, nz, m5, e5, b5⟩ := hE
  unfold ExactC
  have hX : Sd (exF F m e neg = (f0F m neg, false)) := ⟨by
    unfold exF; rw [if_neg (by rw [hb]; simp), if_neg (by omega), if_neg (by omega), if_neg (by omega), if_neg (by omega)]⟩
  generalize exF F m e neg = X at hX
  have hneg := run_negF (floatOfInt .f64 m) w
  clear row nz e5 b5
  have hX' := hX
  clear hX
  rcases h0 with h0 | h0
  all_goals cases neg
  all_goals first | rw [f0_f] at hX' | rw [f0_t] at hX'
  all_goals
    go_enter Tryz.func99, Tryz.ntmps99
    go_wp2_with fail
    go_ret2
    exact ⟨ret_x hX'.out, rfl⟩

theorem exact_c (F : Nat → Nat) (R : Nat × Nat) (m e : Int) (neg : Bool) (w : World) (hm : 0 ≤ m) (hE : Exact F R w) :
    Calls Tryz.prog 99 #[.int .u64 m, .int .i64 e, .bool neg] w fun en w' => en = .returned (.tuple #[.float .f64 (exF F m e neg).1, .bool (exF F m e neg).2]) ∧ w' = w := by
  have key : ExactC F m e neg w := by
    cases hb : (m / 4503599627370496 != 0)
    case true => exact exact_big F R m e neg w hm hE hb
    case false =>
      have hcase : e = 0 ∨ (22 < e ∧ e ≤ 37) ∨ (0 < e ∧ e ≤ 22) ∨ (e < 0 ∧ -22 ≤ e) ∨ (37 < e ∨ e < -22) := by omega
      rcases hcase with rfl | ⟨h1, h2⟩ | ⟨h1, h2⟩ | ⟨h1, h2⟩ | h
      · exact exact_zero F R m neg w hm hE hb
      · obtain ⟨j, rfl⟩ : ∃ j : Nat, e = j := ⟨e.toNat, by omega⟩
        exact exact_high F R m j neg w hm hE hb h1 h2
      · obtain ⟨j, rfl⟩ : ∃ j : Nat, e = j := ⟨e.toNat, by omega⟩
        exact exact_mid F R m j neg w hm hE hb h1 h2
      · obtain ⟨j, rfl⟩ : ∃ j : Nat, e = -(j : Int) := ⟨(-e).toNat, by omega⟩
        exact exact_low F R m j neg w hm hE hb (by omega) (by omega)
      · exact exact_out F R m e neg w hm hE hb h
  exact key
end Go.Proofs.YtcfgjmdfpnfkjaaGreatDoor
