/- Parts of the proof of the statement that this folder hands in: lemmas and contracts (B). -/
import Derived.Test.YtcfgjmdfpnfkjaaGreatDoorA
set_option linter.unusedSimpArgs false
set_option linter.unusedVariables false
set_option linter.unusedSimpArgs false
namespace Go.Proofs.YtcfgjmdfpnfkjaaGreatDoor
open Go.RowKit

/-- Some bool, the world left alone. -/
def SomeB (w : World) (e : Ending) (w' : World) : Prop := ∃ b, e = .returned (.bool b) ∧ w = w'
/-- Some int from a on, below b. -/
def SomeI (a b : Int) (w : World) (e : Ending) (w' : World) : Prop := ∃ n : Int, a ≤ n ∧ n < b ∧ e = .returned (.int .i64 n) ∧ w = w'

/-- A bool that is false at 0. -/
def SomeP (r : Int) (w : World) (e : Ending) (w' : World) : Prop := ∃ b, e = .returned (.bool b) ∧ (b = true → 1 ≤ r) ∧ w = w'
theorem isStart_c (r : Int) (w : World) : Calls Tryz.prog 25 #[.int .i32 r] w (SomeP r w) := by
  go_enter Tryz.func25, Tryz.ntmps25
  go_wp2_with fail
  all_goals (go_ret; exact ⟨_, rfl, by first | (simp; done) | (simp; omega) | omega, rfl⟩)
theorem isDigit_c (r : Int) (w : World) : Calls Tryz.prog 26 #[.int .i32 r] w (SomeP r w) := by
  go_enter Tryz.func26, Tryz.ntmps26
  go_wp2_with fail
  all_goals (go_ret; exact ⟨_, rfl, by first | (simp; done) | (simp; omega) | omega, rfl⟩)
theorem isSource_c (r : Int) (w : World) : Calls Tryz.prog 50 #[.int .i32 r] w (SomeB w) := by
  go_enter Tryz.func50, Tryz.ntmps50
  go_wp2_with fail
  all_goals (go_ret; exact ⟨_, rfl, rfl⟩)
set_option maxHeartbeats 1000000 in
theorem mark_c (r : Int) (w : World) : Calls Tryz.prog 52 #[.int .i32 r] w (SomeI 0 15 w) := by
  go_enter Tryz.func52, Tryz.ntmps52
  go_wp2_with fail
  all_goals (go_ret; exact ⟨_, by decide, by decide, rfl, rfl⟩)

theorem isName_c (s : ByteArray) (w : World) (hs : s.size ≤ 1048576) : Calls Tryz.prog 10 #[.string s] w (SomeB w) := by
  go_enter Tryz.func10, Tryz.ntmps10
  go_wp2_with fail
  go_loopg [3] s.size (fun g v3 wr => ∃ j : Nat, v3 = .int .i64 j ∧ g + j = s.size ∧ w = wr)
  case atStart => exact ⟨0, rfl, by omega, rfl⟩
  case round =>
    obtain ⟨j, rfl, hg, rfl⟩ := hrel
    by_cases hj : j < s.size
    · go_wp2_with (first
        | (go_at_call 25; refine (isStart_c _ _).mono ?_; rintro e w' ⟨b, rfl, -, rfl⟩; cases b)
        | (go_at_call 26; refine (isDigit_c _ _).mono ?_; rintro e w' ⟨b, rfl, -, rfl⟩; cases b)
        | fail)
      all_goals first
        | (go_ret; exact ⟨_, rfl, rfl⟩)
        | (go_roundg (s.size - (j + 1))
           case measure => omega
           case rel => exact ⟨j + 1, by go_num, by omega, rfl⟩)
    · go_wp2_with fail
      go_ret
      exact ⟨_, rfl, rfl⟩

theorem easy_c (s : ByteArray) (w : World) (hs : s.size ≤ 1048576) : Calls Tryz.prog 12 #[.string s] w (SomeB w) := by
  go_enter Tryz.func12, Tryz.ntmps12
  go_wp2_with fail
  go_loopg [3] s.size (fun g v3 wr => ∃ j : Nat, v3 = .int .i64 j ∧ g + j = s.size ∧ w = wr)
  case atStart => exact ⟨0, rfl, by omega, rfl⟩
  case round =>
    obtain ⟨j, rfl, hg, rfl⟩ := hrel
    by_cases hj : j < s.size
    · go_wp2_with fail
      all_goals first
        | (go_ret; exact ⟨_, rfl, rfl⟩)
        | (go_roundg (s.size - (j + 1))
           case measure => omega
           case rel => exact ⟨j + 1, by go_num, by omega, rfl⟩)
    · go_wp2_with fail
      go_ret
      exact ⟨_, rfl, rfl⟩

set_option maxHeartbeats 1000000 in
theorem straight_c (s : ByteArray) (w : World) (hs : s.size ≤ 1048576) : Calls Tryz.prog 13 #[.string s] w (SomeB w) := by
  go_enter Tryz.func13, Tryz.ntmps13
  go_wp2_with fail
  go_loopg [3] s.size (fun g v3 wr => ∃ j : Nat, v3 = .int .i64 j ∧ g + j = s.size ∧ w = wr)
  case atStart => exact ⟨0, rfl, by omega, rfl⟩
  case round =>
    obtain ⟨j, rfl, hg, rfl⟩ := hrel
    by_cases hj : j < s.size
    · go_wp2_with fail
      all_goals first
        | (go_ret; exact ⟨_, rfl, rfl⟩)
        | (go_roundg (s.size - (j + 1))
           case measure => omega
           case rel => exact ⟨j + 1, by go_num, by omega, rfl⟩)
    · by_cases h0 : 0 < s.size
      · obtain ⟨n1, n2⟩ := str_ne h0
        go_wp2_with fail
        all_goals (go_ret; exact ⟨_, rfl, rfl⟩)
      · have n1 := str_nil h0
        go_wp2_with fail
        all_goals (go_ret; exact ⟨_, rfl, rfl⟩)

/-- What the kinds of names are. -/
def nk (s : ByteArray) : Int := if s.toList == [116, 114, 117, 101] then 5 else if s.toList == [102, 97, 108, 115, 101] then 5 else if s.toList == [110, 117, 108, 108] then 6 else 7
theorem nameKind_c (s : ByteArray) (w : World) : Calls Tryz.prog 14 #[.string s] w fun e w' => e = .returned (.int .i64 (nk s)) ∧ w = w' := by
  go_enter Tryz.func14, Tryz.ntmps14
  go_wp2_with fail
  all_goals (go_ret; refine ⟨?_, rfl⟩; simp_all [nk])

end Go.Proofs.YtcfgjmdfpnfkjaaGreatDoor
