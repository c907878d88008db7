/- Parts of the proof of the statement that this folder hands in: lemmas and contracts (W). -/
import Derived.Test.YtcfgjmdfpnfkjaaGreatDoorV
set_option linter.unusedSimpArgs false
set_option linter.unusedVariables false
set_option linter.unusedSimpArgs false
namespace Go.Proofs.YtcfgjmdfpnfkjaaGreatDoor
open Go.RowKit

/-- The exact powers of ten, and the format's numbers. -/
structure Exact (F : Nat → Nat) (R : Nat × Nat) (w : World) : Prop where
  v8 : w.cell? ⟨8, 0, none⟩ = some (.slice (some ⟨R.1, R.2, none⟩) 23 23)
  row : ∀ i, i < 23 → w.cell? ⟨R.1, R.2 + i, none⟩ = some (.float .f64 (F i))
  nz : ∀ i, i < 23 → NZ (F i)
  m5 : w.cell? ⟨5, 0, none⟩ = some (.int .u64 52)
  e5 : w.cell? ⟨5, 1, none⟩ = some (.int .u64 11)
  b5 : w.cell? ⟨5, 2, none⟩ = some (.int .i64 (-1023))

def mulD (x y : Nat) : Nat := (floatBits .mul .f64 x y).getD 0
def quoD (x y : Nat) : Nat := (floatBits .quo .f64 x y).getD 0
theorem mulD_wn {x y : Nat} (hx : WN x) (hy : NZ y) : floatBits .mul .f64 x y = some (mulD x y) ∧ WN (mulD x y) := by
  obtain ⟨r, h1, h2⟩ := mul_wn hx hy
  unfold mulD; rw [h1]; exact ⟨rfl, h2⟩
theorem quoD_wn {x y : Nat} (hx : WN x) (hy : NZ y) : floatBits .quo .f64 x y = some (quoD x y) ∧ WN (quoD x y) := by
  obtain ⟨r, h1, h2⟩ := quo_wn hx hy
  unfold quoD; rw [h1]; exact ⟨rfl, h2⟩

/-- Beyond 10^15. -/
def bigB (x : Nat) : Bool := (FloatKind.f64.format.order x 4831355200913801216 == some Ordering.gt) || (FloatKind.f64.format.order x 14054727237768577024 == some Ordering.lt)
def selN (neg : Bool) (a b : Nat) : Nat := if neg then a else b
theorem selN_t (a b : Nat) : selN true a b = a := rfl
theorem selN_f (a b : Nat) : selN false a b = b := rfl
def f0F (m : Int) (neg : Bool) : Nat := selN neg (Op.negFloat .f64 (floatOfInt .f64 m)) (floatOfInt .f64 m)
theorem f0_t (m : Int) : f0F m true = Op.negFloat .f64 (floatOfInt .f64 m) := by unfold f0F; exact selN_t _ _
theorem f0_f (m : Int) : f0F m false = floatOfInt .f64 m := by unfold f0F; exact selN_f _ _
theorem f0_wn (m : Int) (neg : Bool) : WN (f0F m neg) := by
  cases neg
  · rw [f0_f]; exact ofInt_wn m
  · rw [f0_t]; exact neg_wn (ofInt_wn m)
def exF (F : Nat → Nat) (m e : Int) (neg : Bool) : Nat × Bool :=
  if (m / 4503599627370496 != 0) = true then (0, false)
  else if e = 0 then (f0F m neg, true)
  else if 22 < e ∧ e ≤ 37 then (if bigB (mulD (f0F m neg) (F (e - 22).toNat)) = true then (mulD (f0F m neg) (F (e - 22).toNat), false) else (mulD (mulD (f0F m neg) (F (e - 22).toNat)) (F 22), true))
  else if 0 < e ∧ e ≤ 22 then (if bigB (f0F m neg) = true then (f0F m neg, false) else (mulD (f0F m neg) (F e.toNat), true))
  else if e < 0 ∧ -22 ≤ e then (quoD (f0F m neg) (F (-e).toNat), true)
  else (f0F m neg, false)
theorem ret_f {a c : Nat} {b d : Bool} (h : (a, b) = (c, d)) : Ending.returned (.tuple #[.float .f64 a, .bool b]) = .returned (.tuple #[.float .f64 c, .bool d]) := by
  cases h; rfl
theorem run_negF (x : Nat) (w : World) : Sem.run Tryz.prog (Op.unary UnOp.neg (Value.float .f64 x)) w = .ok (.float .f64 (Op.negFloat .f64 x)) w := rfl
theorem ret_x {X : Nat × Bool} {a : Nat} {b : Bool} (h : X = (a, b)) : Ending.returned (.tuple #[.float .f64 a, .bool b]) = .returned (.tuple #[.float .f64 X.1, .bool X.2]) := by
  rw [h]

/-- What the walks want, m, e and the sign being given. -/
def ExactC (F : Nat → Nat) (m e : Int) (neg : Bool) (w : World) : Prop :=
    Calls Tryz.prog 99 #[.int .u64 m, .int .i64 e, .bool neg] w fun en w' => en = .returned (.tuple #[.float .f64 (exF F m e neg).1, .bool (exF F m e neg).2]) ∧ w' = w

set_option maxRecDepth 100000 in
set_option maxHeartbeats 8000000 in
theorem exact_big (F : Nat → Nat) (R : Nat × Nat) (m e : Int) (neg : Bool) (w : World) (hm : 0 ≤ m) (hE : Exact F R w) (hb : (m / 4503599627370496 != 0) = true) : ExactC F m e neg w := by
  obtain ⟨v8, row, nz, m5, e5, b5⟩ := hE
  unfold ExactC
  have e1 : exF F m e neg = (0, false) := by unfold exF; rw [if_pos hb]
  rw [e1]
  clear e1 row nz e5 b5
  go_enter Tryz.func99, Tryz.ntmps99
  go_wp2_with fail
  go_ret2
  exact ⟨rfl, rfl⟩

set_option maxRecDepth 100000 in
set_option maxHeartbeats 8000000 in
theorem exact_zero (F : Nat → Nat) (R : Nat × Nat) (m : Int) (neg : Bool) (w : World) (hm : 0 ≤ m) (hE : Exact F R w) (hb : (m / 4503599627370496 != 0) = false) : ExactC F m 0 neg w := by
  obtain ⟨v8, row, nz, m5, e5, b5⟩ := hE
  unfold ExactC
  have e1 : exF F m 0 neg = (f0F m neg, true) := by unfold exF; rw [if_neg (by rw [hb]; simp), if_pos rfl]
  rw [e1]
  clear e1 row nz e5 b5
  have hneg := run_negF (floatOfInt .f64 m) w
  cases neg
  · rw [f0_f]
    go_enter Tryz.func99, Tryz.ntmps99
    go_wp2_with fail
    go_ret2
    exact ⟨rfl, rfl⟩
  · rw [f0_t]
    go_enter Tryz.func99, Tryz.ntmps99
    go_wp2_with fail
    go_ret2
    exact ⟨rfl, rfl⟩

set_option maxRecDepth 100000 in
set_option maxHeartbeats 8000000 in
theorem exact_mid (F : Nat → Nat) (R : Nat × Nat) (m : Int) (j : Nat) (neg : Bool) (w : World) (hm : 0 ≤ m) (hE : Exact F R w) (hb : (m / 4503599627370496 != 0) = false) (h0 : 0 < (j : Int)) (h22 : (j : Int) ≤ 22) : ExactC F m j neg w := by
  obtain ⟨v8, row, nz, m5, e5, b5⟩ := hE
  unfold ExactC
  have hX : Sd (exF F m j neg = if bigB (f0F m neg) = true then (f0F m neg, false) else (mulD (f0F m neg) (F j), true)) := ⟨by
    unfold exF; rw [if_neg (by rw [hb]; simp), if_neg (by omega), if_neg (by omega), if_pos ⟨h0, h22⟩]; rfl⟩
  generalize exF F m j neg = X at hX
  obtain ⟨hmul, hw⟩ := mulD_wn (f0_wn m neg) (nz j (by omega))
  have hrun := run_float_arith (P := Tryz.prog) w .mul 44 .f64 _ _ _ hmul
  have rj := row j (by omega)
  have hj : decide (j < 23) = true := by simp; omega
  have hneg := run_negF (floatOfInt .f64 m) w
  clear row nz e5 b5 hmul hw
  cases neg
  · rw [f0_f] at hrun hX
    cases q1 : (FloatKind.f64.format.order (floatOfInt .f64 m) 4831355200913801216 == some Ordering.gt)
    · cases q2 : (FloatKind.f64.format.order (floatOfInt .f64 m) 14054727237768577024 == some Ordering.lt)
      · have hX' := Sd.mk (hX.out.trans (if_neg (by simp only [bigB, q1, q2]; decide)))
        clear hX
        go_enter Tryz.func99, Tryz.ntmps99
        go_wp2_with fail
        go_ret2
        exact ⟨ret_x hX'.out, rfl⟩
      · have hX' := Sd.mk (hX.out.trans (if_pos (by simp only [bigB, q1, q2]; decide)))
        clear hX
        go_enter Tryz.func99, Tryz.ntmps99
        go_wp2_with fail
        go_ret2
        exact ⟨ret_x hX'.out, rfl⟩
    · have hX' := Sd.mk (hX.out.trans (if_pos (by simp only [bigB, q1]; rfl)))
      clear hX
      go_enter Tryz.func99, Tryz.ntmps99
      go_wp2_with fail
      go_ret2
      exact ⟨ret_x hX'.out, rfl⟩
  · rw [f0_t] at hrun hX
    cases q1 : (FloatKind.f64.format.order (Op.negFloat .f64 (floatOfInt .f64 m)) 4831355200913801216 == some Ordering.gt)
    · cases q2 : (FloatKind.f64.format.order (Op.negFloat .f64 (floatOfInt .f64 m)) 14054727237768577024 == some Ordering.lt)
      · have hX' := Sd.mk (hX.out.trans (if_neg (by simp only [bigB, q1, q2]; decide)))
        clear hX
        go_enter Tryz.func99, Tryz.ntmps99
        go_wp2_with fail
        go_ret2
        exact ⟨ret_x hX'.out, rfl⟩
      · have hX' := Sd.mk (hX.out.trans (if_pos (by simp only [bigB, q1, q2]; decide)))
        clear hX
        go_enter Tryz.func99, Tryz.ntmps99
        go_wp2_with fail
        go_ret2
        exact ⟨ret_x hX'.out, rfl⟩
    · have hX' := Sd.mk (hX.out.trans (if_pos (by simp only [bigB, q1]; rfl)))
      clear hX
      go_enter Tryz.func99, Tryz.ntmps99
      go_wp2_with fail
      go_ret2
      exact ⟨ret_x hX'.out, rfl⟩
end Go.Proofs.YtcfgjmdfpnfkjaaGreatDoor
