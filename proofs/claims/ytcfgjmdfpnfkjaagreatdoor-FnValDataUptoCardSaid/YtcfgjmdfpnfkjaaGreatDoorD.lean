/- Parts of the proof of the statement that this folder hands in: lemmas and contracts (D). -/
import Derived.Test.YtcfgjmdfpnfkjaaGreatDoorC
set_option linter.unusedSimpArgs false
set_option linter.unusedVariables false
set_option linter.unusedSimpArgs false
namespace Go.Proofs.YtcfgjmdfpnfkjaaGreatDoor
open Go.RowKit

/-- A hex digit's number, below 0 at 0. -/
def HexRes (r : Int) (w : World) (e : Ending) (w' : World) : Prop := ∃ n : Int, -1000 ≤ n ∧ n < 1114112 ∧ (0 ≤ n → 1 ≤ r) ∧ e = .returned (.int .i64 n) ∧ w = w'
theorem hex_c (r : Int) (w : World) (h0 : 0 ≤ r) (h1 : r ≤ 1114111) : Calls Tryz.prog 108 #[.int .i32 r] w (HexRes r w) := by
  go_enter Tryz.func108, Tryz.ntmps108
  go_wp2_with (first
    | (go_at_call 26; refine (isDigit_c _ _).mono ?_; rintro e w' ⟨b, rfl, hp, rfl⟩; cases b)
    | fail)
  all_goals (go_ret; first | exact ⟨_, by omega, by omega, fun _ => by omega, rfl, rfl⟩ | exact ⟨_, by omega, by omega, fun _ => hp rfl, rfl, rfl⟩)

set_option maxHeartbeats 4000000 in
set_option maxRecDepth 100000 in
theorem level_c (s : ByteArray) (w : World) (hs : s.size ≤ 4194304) : Calls Tryz.prog 84 #[.string s] w fun e w' => (∃ b, e = .returned (.bool b)) ∧ Ext w w' := by
  go_enter Tryz.func84, Tryz.ntmps84
  go_wp2_with fail
  go_loopg [3] s.size (fun g v3 wr => ∃ j : Nat, v3 = .int .i64 j ∧ g + j = s.size ∧ w = wr)
  case atStart => exact ⟨0, rfl, by omega, rfl⟩
  case round =>
    obtain ⟨j, rfl, hg, rfl⟩ := hrel
    by_cases hj : j < s.size
    · go_wp2_with fail
      all_goals first
        | (go_ret; exact ⟨⟨_, rfl⟩, Ext.refl _⟩)
        | (go_roundg (s.size - (j + 1))
           case measure => omega
           case rel => exact ⟨j + 1, by go_num, by omega, rfl⟩)
    · go_wp2_with fail
      refine (lines_c s _ hs).mono ?_
      rintro e w' ⟨⟨v, n, rfl, hn, hn2, hR⟩, he⟩
      have HE := Sd.mk he
      clear he
      obtain ⟨g, o, c, cur, rfl, hnc, hB, hb, ht⟩ := hR
      obtain ⟨t0, e0, hs0⟩ := ht 0 hn
      rw [Nat.add_zero] at e0
      have f := box_cell hb
      have hlt : decide (0 < n) = true := by simpa using hn
      clear hb ht
      go_wp2_with fail
      refine wp_region_quiet_lit (by kernel_rfl) (by kernel_rfl) ?_
      repeat (any_goals (first | go_big_quiet_step (((go_at_call 107; exact Calls.quiet_of_same (leading_c _ _ (by omega))))) | quiet_step (((go_at_call 107; exact Calls.quiet_of_same (leading_c _ _ (by omega))))) | (refine wpQuiet_step (fun K hK => ?_); go_simp; split <;> (refine hK _ ?_; clear hK K))))
      all_goals (refine wpQuiet_nil ?_; intro _ hw'; obtain ⟨nq, hw''⟩ := hw'; subst hw'')
      all_goals
        go_wp2_with fail
        go_ret
        exact ⟨⟨_, rfl⟩, Ext.drewN HE.out _⟩

end Go.Proofs.YtcfgjmdfpnfkjaaGreatDoor
