/- Parts of the proof of the statement that this folder hands in: lemmas and contracts (C). -/
import Derived.Test.YtgkjdgolffnagaaGreatDoorB
set_option linter.unusedSimpArgs false
set_option linter.unusedVariables false
namespace Go.Proofs.YtgkjdgolffnagaaGreatDoor
open Go.RowKit

theorem isDecimal_any (s : ByteArray) (w : World) (hs : s.size ≤ 1048576) :
    Calls Tryz.prog 25 #[.string s] w fun e w' => (∃ b, e = .returned (.bool b)) ∧ Ext w w' := by
  go_enter Tryz.func25, Tryz.ntmps25
  go_wp2_with fail
  refine (decimalOf_any s w hs).mono ?_
  rintro e w' ⟨⟨m, t, n, b, rfl⟩, he⟩
  have HE := Sd.mk he
  clear he
  go_wp2_with fail
  go_ret
  exact ⟨⟨_, rfl⟩, HE.out.alloc _⟩

set_option maxHeartbeats 1600000 in
set_option maxRecDepth 100000 in
theorem width_any (s : ByteArray) (i : Nat) (w : World) (hs : s.size ≤ 1048576) (hi : i < s.size) :
    Calls Tryz.prog 46 #[.string s, .int .i64 i] w fun e w' => (∃ n : Nat, e = .returned (.int .i64 n) ∧ i + n ≤ s.size) ∧ w = w' := by
  go_enter Tryz.func46, Tryz.ntmps46
  go_upto_block 0 with (fail)
  go_cut [6, 7, 8] (fun v6 v7 v8 wx => ∃ (n : Nat) (l m : Int), v6 = .int .i64 n ∧ v7 = .int .u8 l ∧ v8 = .int .u8 m ∧ 2 ≤ n ∧ n ≤ 4 ∧ w = wx)
  case first =>
    go_wp2_with fail
    all_goals first
      | (go_ret; exact ⟨⟨0, rfl, by omega⟩, rfl⟩)
      | (go_ret; exact ⟨⟨1, rfl, by omega⟩, rfl⟩)
      | (go_meet; first | exact ⟨2, _, _, rfl, rfl, rfl, by omega, by omega, rfl⟩ | exact ⟨3, _, _, rfl, rfl, rfl, by omega, by omega, rfl⟩ | exact ⟨4, _, _, rfl, rfl, rfl, by omega, by omega, rfl⟩)
  case rest =>
    obtain ⟨n, l, m, rfl, rfl, rfl, hn2, hn4, rfl⟩ := hcut
    go_upto_region 21 with (fail)
    go_cut [66] (fun v66 wx => ∃ b, v66 = .bool b ∧ (b = false → i + n ≤ s.size) ∧ w = wx)
    case first =>
      by_cases h : s.size < i + n
      · go_wp2_with fail
        all_goals (go_meet; exact ⟨_, rfl, by first | (simp; done) | (simp; omega), rfl⟩)
      · go_wp2_with fail
        all_goals (go_meet; exact ⟨_, rfl, fun _ => by omega, rfl⟩)
    case rest =>
      obtain ⟨b, rfl, hb, rfl⟩ := hcut
      cases b
      · have h : i + n ≤ s.size := hb rfl
        clear hb
        go_wp2_with fail
        go_loopg [9] n (fun g v9 wr => ∃ j : Nat, v9 = .int .i64 j ∧ 2 ≤ j ∧ g + j = n + 2 ∧ w = wr)
        case atStart => exact ⟨2, rfl, by omega, rfl, rfl⟩
        case round =>
          obtain ⟨j, rfl, hj, hg, rfl⟩ := hrel
          by_cases hjn : j < n
          · go_wp2_with fail
            all_goals first
              | (go_ret; exact ⟨⟨0, rfl, by omega⟩, rfl⟩)
              | (go_roundg (gk - 1)
                 case measure => omega
                 case rel => exact ⟨j + 1, by go_num, by omega, by omega, rfl⟩)
          · go_wp2_with fail
            go_ret
            exact ⟨⟨n, rfl, h⟩, rfl⟩
      · go_wp2_with fail
        go_ret
        exact ⟨⟨0, rfl, by omega⟩, rfl⟩

theorem utf8_any (s : ByteArray) (w : World) (hs : s.size ≤ 1048576) :
    Calls Tryz.prog 24 #[.string s] w fun e w' => (∃ b, e = .returned (.bool b)) ∧ w = w' := by
  go_enter Tryz.func24, Tryz.ntmps24
  go_wp2_with fail
  go_loopg [3] s.size (fun g v3 wr => ∃ j : Nat, v3 = .int .i64 j ∧ g + j = s.size ∧ w = wr)
  case atStart => exact ⟨0, rfl, rfl, rfl⟩
  case round =>
    obtain ⟨j, rfl, hg, rfl⟩ := hrel
    by_cases hj : j < s.size
    · go_wp2_with fail
      refine (width_any s j _ hs hj).mono ?_
      rintro e w' ⟨⟨n, rfl, hn⟩, rfl⟩
      by_cases h0 : n = 0
      · subst h0
        go_wp2_with fail
        go_ret
        exact ⟨⟨_, rfl⟩, rfl⟩
      · have h0' : ((n : Int) == 0) = false := by simpa using h0
        go_wp2_with fail
        go_roundg (s.size - (j + n))
        case measure => omega
        case rel => exact ⟨j + n, by go_num, by omega, rfl⟩
    · go_wp2_with fail
      go_ret
      exact ⟨⟨_, rfl⟩, rfl⟩

theorem runes_any (s : ByteArray) (w : World) (hs : s.size ≤ 1048576) :
    Calls Tryz.prog 35 #[.string s] w fun e w' => (∃ n : Int, e = .returned (.int .i64 n)) ∧ w = w' := by
  go_enter Tryz.func35, Tryz.ntmps35
  go_wp2_with fail
  go_loopg [3, 4] s.size (fun g v3 v4 wr => ∃ (j : Nat) (n : Int), v3 = .int .i64 n ∧ v4 = .int .i64 j ∧ g + j = s.size ∧ w = wr)
  case atStart => exact ⟨0, 0, rfl, rfl, rfl, rfl⟩
  case round =>
    obtain ⟨j, n, rfl, rfl, hg, rfl⟩ := hrel
    by_cases hj : j < s.size
    · go_wp2_with fail
      all_goals
        go_roundg (s.size - (j + 1))
        case measure => omega
        case rel => exact ⟨j + 1, _, rfl, by go_num, by omega, rfl⟩
    · go_wp2_with fail
      go_ret
      exact ⟨⟨_, rfl⟩, rfl⟩

end Go.Proofs.YtgkjdgolffnagaaGreatDoor
