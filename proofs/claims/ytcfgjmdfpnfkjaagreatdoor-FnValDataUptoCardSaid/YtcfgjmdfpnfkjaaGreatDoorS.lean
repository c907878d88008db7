/- Parts of the proof of the statement that this folder hands in: lemmas and contracts (S). -/
import Derived.Test.YtcfgjmdfpnfkjaaGreatDoorA
import Derived.Laws.Externs
import Derived.IntWalk
import GoSem.Extern.MathFloatBits
set_option linter.unusedSimpArgs false
set_option linter.unusedVariables false
set_option linter.unusedSimpArgs false
namespace Go.Proofs.YtcfgjmdfpnfkjaaGreatDoor
open Go.RowKit

def unF (x : Int) : Int := IntKind.u64.wrap (IntKind.u64.wrap (x * 4) - 2)
theorem unmin_c (x : Int) (w : World) : Calls Tryz.prog 117 #[.int .u64 x] w fun e w' => e = .returned (.int .u64 (unF x)) ∧ w' = w := by
  go_enter Tryz.func117, Tryz.ntmps117
  go_wp2_with fail
  go_ret
  exact ⟨rfl, rfl⟩
def rdF (x : Int) : Int := IntKind.u64.wrap (IntKind.u64.wrap (x + 1) + bits BinOp.and IntKind.u64 (x / 4) 1) / 4
theorem round_c (x : Int) (w : World) : Calls Tryz.prog 119 #[.int .u64 x] w fun e w' => e = .returned (.int .u64 (rdF x)) ∧ w' = w := by
  go_enter Tryz.func119, Tryz.ntmps119
  go_wp2_with fail
  go_ret
  exact ⟨rfl, rfl⟩
def l2F (x : Int) : Int := wrap64 (x * 108853) / 32768
theorem log2_c (x : Int) (w : World) : Calls Tryz.prog 113 #[.int .i64 x] w fun e w' => e = .returned (.int .i64 (l2F x)) ∧ w' = w := by
  go_enter Tryz.func113, Tryz.ntmps113
  go_wp2_with fail
  go_ret
  exact ⟨rfl, rfl⟩
def loF (x : Int) : Int := bits BinOp.or IntKind.u8 x 32
theorem lower_c (x : Int) (w : World) : Calls Tryz.prog 57 #[.int .u8 x] w fun e w' => e = .returned (.int .u8 (loF x)) ∧ w' = w := by
  go_enter Tryz.func57, Tryz.ntmps57
  go_wp2_with fail
  go_ret
  exact ⟨rfl, rfl⟩
def b2F (b : Bool) : Int := if b then 1 else 0
theorem bool64_c (b : Bool) (w : World) : Calls Tryz.prog 97 #[.bool b] w fun e w' => e = .returned (.int .u64 (b2F b)) ∧ w' = w := by
  cases b
  all_goals
    go_enter Tryz.func97, Tryz.ntmps97
    go_wp2_with fail
    go_ret
    exact ⟨rfl, rfl⟩
theorem boolInt_c (b : Bool) (w : World) : Calls Tryz.prog 116 #[.bool b] w fun e w' => e = .returned (.int .i64 (b2F b)) ∧ w' = w := by
  cases b
  all_goals
    go_enter Tryz.func116, Tryz.ntmps116
    go_wp2_with fail
    go_ret
    exact ⟨rfl, rfl⟩
theorem run98 (n : Int) (w : World) : (callFunc 98 #[.int .u64 n]).run Tryz.prog w = .ok (.value (.float .f64 n.toNat)) w :=
  run_callFunc_extern Tryz.func98 (by kernel_rfl) (by kernel_rfl) (by kernel_rfl) (e := Extern.MathFloatBits.float64frombits) (by kernel_rfl) #[.int .u64 n] w
theorem run17 (n : Nat) (w : World) : (callFunc 17 #[.float .f64 n]).run Tryz.prog w = .ok (.value (.int .u64 n)) w :=
  run_callFunc_extern Tryz.func17 (by kernel_rfl) (by kernel_rfl) (by kernel_rfl) (e := Extern.MathFloatBits.float64bits) (by kernel_rfl) #[.float .f64 n] w
/-- An error of internal/strconv's, or none. -/
def err (k : Int) : Value := if k = 0 then .nilIface else .iface 103 (.int .i64 k)
def pkF (m e : Int) : Nat × Int :=
  if bits BinOp.and IntKind.u64 m 4503599627370496 == 0 then (m.toNat, 0)
  else if 972 ≤ e then ((bits BinOp.or IntKind.u64 (bits BinOp.and IntKind.u64 m 9223372036854775808) 9218868437227405312).toNat, 1)
  else ((bits BinOp.or IntKind.u64 (bits BinOp.andNot IntKind.u64 m 4503599627370496) (IntKind.u64.wrap (IntKind.u64.wrap (wrap64 (1075 + e)) * 4503599627370496))).toNat, 0)
set_option maxRecDepth 100000 in
theorem pack_c (m e : Int) (w : World) : Calls Tryz.prog 122 #[.int .u64 m, .int .i64 e] w fun en w' => en = .returned (.tuple #[.float .f64 (pkF m e).1, err (pkF m e).2]) ∧ w' = w := by
  have h98 := run98
  cases q : (bits BinOp.and IntKind.u64 m 4503599627370496 == 0)
  · by_cases he : 972 ≤ e
    · go_enter Tryz.func122, Tryz.ntmps122
      go_wp2_with fail
      go_ret2
      exact ⟨by simp [pkF, q, he, err], rfl⟩
    · go_enter Tryz.func122, Tryz.ntmps122
      go_wp2_with fail
      go_ret2
      exact ⟨by rw [pkF, if_neg (by simp [q]), if_neg (by omega)]; rfl, rfl⟩
  · go_enter Tryz.func122, Tryz.ntmps122
    go_wp2_with fail
    go_ret2
    exact ⟨by simp [pkF, q, err], rfl⟩

set_option maxRecDepth 100000 in
theorem mul64_e : ∃ H L : Int → Int → Int, ∀ (x y : Int) (w : World), Calls Tryz.prog 128 #[.int .u64 x, .int .u64 y] w fun e w' => e = .returned (.tuple #[.int .u64 (H x y), .int .u64 (L x y)]) ∧ w' = w := by
  refine ⟨?H, ?L, fun x y w => ?_⟩
  rotate_left 2
  go_enter Tryz.func128, Tryz.ntmps128
  go_wp2_with fail
  go_ret2
  refine ⟨?_, rfl⟩
  show Ending.returned (.tuple #[.int .u64 _, .int .u64 _]) = _
  rfl

/-- The two words of a product. -/
noncomputable def hiF : Int → Int → Int := mul64_e.choose
noncomputable def lwF : Int → Int → Int := mul64_e.choose_spec.choose
theorem mul64_c (x y : Int) (w : World) : Calls Tryz.prog 128 #[.int .u64 x, .int .u64 y] w fun e w' => e = .returned (.tuple #[.int .u64 (hiF x y), .int .u64 (lwF x y)]) ∧ w' = w := mul64_e.choose_spec.choose_spec x y w

theorem and63 (s : Int) : 0 ≤ bits BinOp.and IntKind.i64 s 63 ∧ bits BinOp.and IntKind.i64 s 63 ≤ 63 := by
  unfold bits
  have h : (BitVec.ofInt IntKind.i64.bits s &&& BitVec.ofInt IntKind.i64.bits 63).toNat ≤ 63 := by
    rw [BitVec.toNat_and]
    exact Nat.le_trans Nat.and_le_right (by decide)
  simp only
  generalize (BitVec.ofInt IntKind.i64.bits s &&& BitVec.ofInt IntKind.i64.bits 63).toNat = n at h
  rw [IntWalk.i64_in _ (by omega)]
  omega

noncomputable def usF (x hi lo s : Int) : Int :=
  if (IntKind.u64.wrap (hiF x hi / 2 ^ (bits BinOp.and IntKind.i64 s 63).toNat * 2 ^ (bits BinOp.and IntKind.i64 s 63).toNat) != hiF x hi) = true then bits BinOp.or IntKind.u64 (hiF x hi / 2 ^ (bits BinOp.and IntKind.i64 s 63).toNat) 1
  else bits BinOp.or IntKind.u64 (IntKind.u64.wrap (hiF x hi - b2F (decide (lwF x hi < hiF x lo))) / 2 ^ (bits BinOp.and IntKind.i64 s 63).toNat) (b2F (decide (1 < IntKind.u64.wrap (lwF x hi - hiF x lo))))
set_option maxRecDepth 100000 in
theorem uscale_c (x hi lo s : Int) (b : Nat) (w : World) (h : w.heap[b]? = some (.cells #[.int .u64 hi, .int .u64 lo, .int .i64 s] 199 (0, 0))) :
    Calls Tryz.prog 115 #[.int .u64 x, .pointer (some ⟨b, 0, none⟩)] w fun e w' => e = .returned (.int .u64 (usF x hi lo s)) ∧ ∃ n, w' = w.drewN n := by
  have f := box_cell h
  obtain ⟨g1, g2⟩ := and63 s
  clear h
  cases q : (IntKind.u64.wrap (hiF x hi / 2 ^ (bits BinOp.and IntKind.i64 s 63).toNat * 2 ^ (bits BinOp.and IntKind.i64 s 63).toNat) != hiF x hi)
  · have e : usF x hi lo s = bits BinOp.or IntKind.u64 (IntKind.u64.wrap (hiF x hi - b2F (decide (lwF x hi < hiF x lo))) / 2 ^ (bits BinOp.and IntKind.i64 s 63).toNat) (b2F (decide (1 < IntKind.u64.wrap (lwF x hi - hiF x lo)))) := by
      unfold usF; rw [if_neg (by rw [q]; simp)]
    rw [e]
    clear e
    go_enter Tryz.func115, Tryz.ntmps115
    go_wp2_with (first | (go_at_call 128; refine (mul64_c _ _ _).mono ?_; rintro e w' ⟨rfl, rfl⟩) | (go_at_call 97; refine (bool64_c _ _).mono ?_; rintro e w' ⟨rfl, rfl⟩) | fail)
    go_quiet ((go_at_call 97; exact Calls.quiet_of_same (bool64_c _ _)))
    go_wp2_with fail
    go_ret
    exact ⟨rfl, _, rfl⟩
  · have e : usF x hi lo s = bits BinOp.or IntKind.u64 (hiF x hi / 2 ^ (bits BinOp.and IntKind.i64 s 63).toNat) 1 := by
      unfold usF; rw [if_pos q]
    rw [e]
    clear e
    go_enter Tryz.func115, Tryz.ntmps115
    go_wp2_with (first | (go_at_call 128; refine (mul64_c _ _ _).mono ?_; rintro e w' ⟨rfl, rfl⟩) | fail)
    go_ret
    exact ⟨rfl, 0, rfl⟩

end Go.Proofs.YtcfgjmdfpnfkjaaGreatDoor
