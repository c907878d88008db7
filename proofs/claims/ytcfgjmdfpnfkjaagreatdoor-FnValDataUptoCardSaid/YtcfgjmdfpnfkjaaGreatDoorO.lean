/- Parts of the proof of the statement that this folder hands in: lemmas and contracts (O). -/
import Derived.Test.YtcfgjmdfpnfkjaaGreatDoorL
set_option linter.unusedSimpArgs false
set_option linter.unusedVariables false
set_option linter.unusedSimpArgs false
namespace Go.Proofs.YtcfgjmdfpnfkjaaGreatDoor
open Go.RowKit

def dgB (r : Int) : Bool := decide (48 ≤ r) && decide (r ≤ 57)
theorem isDigit_x (r : Int) (w : World) : Calls Tryz.prog 26 #[.int .i32 r] w fun e w' => e = .returned (.bool (dgB r)) ∧ w' = w := by
  go_enter Tryz.func26, Tryz.ntmps26
  go_wp2_with fail
  all_goals (go_ret; refine ⟨ret_b ?_, rfl⟩; rw [Bool.eq_iff_iff]; simp [dgB]; try omega)
/-- Is the text a name, from place j on? -/
def nmF (s : ByteArray) : Nat → Nat → Bool
  | 0, _ => true
  | f + 1, j => if h : j < s.size then (stB (wrap32 s[j].toNat) || (!((j : Int) == 0) && dgB (wrap32 s[j].toNat))) && nmF s f (j + 1) else true
def nmB (s : ByteArray) : Bool := nmF s s.size 0 && !s.toList.isEmpty
theorem nmF_stop {s : ByteArray} {f j : Nat} (h : j < s.size) (hb : (stB (wrap32 s[j].toNat) || (!((j : Int) == 0) && dgB (wrap32 s[j].toNat))) = false) : nmF s (f + 1) j = false := by
  rw [nmF, dif_pos h, hb]; rfl
theorem nmF_step {s : ByteArray} {f j : Nat} (h : j < s.size) (hb : (stB (wrap32 s[j].toNat) || (!((j : Int) == 0) && dgB (wrap32 s[j].toNat))) = true) : nmF s (f + 1) j = nmF s f (j + 1) := by
  rw [nmF, dif_pos h, hb]; rfl

set_option maxHeartbeats 1000000 in
theorem isName_x (s : ByteArray) (w : World) (hs : s.size ≤ 1048576) : Calls Tryz.prog 10 #[.string s] w fun e w' => e = .returned (.bool (nmB s)) ∧ w' = w := by
  go_enter Tryz.func10, Tryz.ntmps10
  go_wp2_with fail
  go_loopg [3] s.size (fun g v3 wr => ∃ j : Nat, v3 = .int .i64 j ∧ g + j = s.size ∧ w = wr ∧ Sd (nmF s g j = nmF s s.size 0))
  case atStart => exact ⟨0, rfl, by omega, rfl, ⟨rfl⟩⟩
  case round =>
    obtain ⟨j, rfl, hg, rfl, HF⟩ := hrel
    by_cases hj : j < s.size
    · obtain ⟨k, rfl⟩ : ∃ k, gk = k + 1 := ⟨gk - 1, by omega⟩
      have hcase : (stB (wrap32 s[j].toNat) || (!((j : Int) == 0) && dgB (wrap32 s[j].toNat))) = true ∨ (stB (wrap32 s[j].toNat) || (!((j : Int) == 0) && dgB (wrap32 s[j].toNat))) = false := by
        cases (stB (wrap32 s[j].toNat) || (!((j : Int) == 0) && dgB (wrap32 s[j].toNat))) <;> simp
      rcases hcase with hc | hc
      · have HS := Sd.mk ((nmF_step (f := k) hj hc).symm.trans HF.out)
        clear HF
        cases q1 : stB (wrap32 s[j].toNat)
        · rw [q1] at hc
          simp only [Bool.false_or, Bool.and_eq_true, Bool.not_eq_true'] at hc
          obtain ⟨h0, h1⟩ := hc
          go_wp2_with (first
            | (go_at_call 25; refine (isStart_x _ _).mono ?_; rintro e w' ⟨rfl, rfl⟩)
            | (go_at_call 26; refine (isDigit_x _ _).mono ?_; rintro e w' ⟨rfl, rfl⟩)
            | fail)
          go_roundg k
          case measure => omega
          case rel => exact ⟨j + 1, by go_num, by omega, rfl, HS⟩
        · clear hc
          go_wp2_with (first
            | (go_at_call 25; refine (isStart_x _ _).mono ?_; rintro e w' ⟨rfl, rfl⟩)
            | fail)
          go_roundg k
          case measure => omega
          case rel => exact ⟨j + 1, by go_num, by omega, rfl, HS⟩
      · have HS := Sd.mk (HF.out.symm.trans (nmF_stop (f := k) hj hc))
        clear HF
        simp only [Bool.or_eq_false_iff] at hc
        obtain ⟨q1, hc⟩ := hc
        cases q0 : ((j : Int) == 0)
        · rw [q0] at hc
          simp only [Bool.not_false, Bool.true_and] at hc
          go_wp2_with (first
            | (go_at_call 25; refine (isStart_x _ _).mono ?_; rintro e w' ⟨rfl, rfl⟩)
            | (go_at_call 26; refine (isDigit_x _ _).mono ?_; rintro e w' ⟨rfl, rfl⟩)
            | fail)
          go_ret
          exact ⟨ret_b (by unfold nmB; rw [HS.out]; rfl), rfl⟩
        · clear hc
          go_wp2_with (first
            | (go_at_call 25; refine (isStart_x _ _).mono ?_; rintro e w' ⟨rfl, rfl⟩)
            | fail)
          go_ret
          exact ⟨ret_b (by unfold nmB; rw [HS.out]; rfl), rfl⟩
    · have HS : Sd (nmF s s.size 0 = true) := ⟨by rw [← HF.out, show gk = 0 by omega]; rfl⟩
      clear HF
      by_cases h0 : 0 < s.size
      · obtain ⟨n1, n2⟩ := str_ne h0
        go_wp2_with fail
        go_ret
        exact ⟨ret_b (by unfold nmB; rw [HS.out, n1]; rfl), rfl⟩
      · have n1 := str_nil h0
        go_wp2_with fail
        go_ret
        exact ⟨ret_b (by unfold nmB; rw [HS.out, n1]; rfl), rfl⟩

end Go.Proofs.YtcfgjmdfpnfkjaaGreatDoor
