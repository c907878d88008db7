/- Parts of the proof of the statement that this folder hands in: lemmas and contracts (L). -/
import Derived.Test.YtcfgjmdfpnfkjaaGreatDoorK
set_option linter.unusedSimpArgs false
set_option linter.unusedVariables false
set_option linter.unusedSimpArgs false
namespace Go.Proofs.YtcfgjmdfpnfkjaaGreatDoor
open Go.RowKit

def stB (r : Int) : Bool := (r == 95) || (decide (97 ≤ r) && decide (r ≤ 122)) || (decide (65 ≤ r) && decide (r ≤ 90))
def srcB (r : Int) : Bool := (r == 9) || (r == 10) || (r == 13) || decide (32 ≤ r)
theorem ret_b {a b : Bool} (h : a = b) : Ending.returned (.bool a) = .returned (.bool b) := by rw [h]
theorem isStart_x (r : Int) (w : World) : Calls Tryz.prog 25 #[.int .i32 r] w fun e w' => e = .returned (.bool (stB r)) ∧ w' = w := by
  go_enter Tryz.func25, Tryz.ntmps25
  go_wp2_with fail
  all_goals (go_ret; refine ⟨ret_b ?_, rfl⟩; rw [Bool.eq_iff_iff]; simp [stB]; try omega)
theorem isSource_x (r : Int) (w : World) : Calls Tryz.prog 50 #[.int .i32 r] w fun e w' => e = .returned (.bool (srcB r)) ∧ w' = w := by
  go_enter Tryz.func50, Tryz.ntmps50
  go_wp2_with fail
  all_goals (go_ret; refine ⟨ret_b ?_, rfl⟩; rw [Bool.eq_iff_iff]; simp [srcB]; try omega)

section
variable {W0 : World} {B1 b tb N cap : Nat} {w : World} {a tc : Nat} {tv : Value} {sure : Bool} {seen : Nat} {line fr : Int}

/-- The character that stands here. -/
theorem peek_x (hS : LS W0 B1 b tb N cap) (h : LX W0 B1 b tb N cap w a tc tv sure seen line fr) (hp : a < N) {r : Int} (er : w.cell? ⟨tb, a, none⟩ = some (.int .i32 r)) :
    Calls Tryz.prog 53 #[.pointer (some ⟨b, 0, none⟩), .int .i64 0] w fun e w' => e = .returned (.int .i32 r) ∧ ∃ n, w' = w.drewN n := by
  have f := box_cell h.cells
  have hN := hS.n8
  have hw1 : IntKind.i64.wrap (a : Int) = (a : Int) := by rw [IntWalk.i64_in _ (by omega)]
  have hp' : decide (a < N) = true := by simpa using hp
  clear h hS
  go_enter Tryz.func53, Tryz.ntmps53
  go_wp2_with fail
  go_quiet (fail)
  go_wp2_with fail
  go_quiet (fail)
  go_wp2_with fail
  go_ret
  exact ⟨rfl, _, World.drewN_drewN _ _ _⟩
end

end Go.Proofs.YtcfgjmdfpnfkjaaGreatDoor
