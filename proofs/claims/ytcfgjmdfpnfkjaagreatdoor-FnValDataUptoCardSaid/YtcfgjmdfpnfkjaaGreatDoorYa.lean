/- Parts of the proof of the statement that this folder hands in: lemmas and contracts (Ya). -/
import Derived.Test.YtcfgjmdfpnfkjaaGreatDoorF
import Derived.Test.YtcfgjmdfpnfkjaaGreatDoorS
import Derived.Outline
set_option linter.unusedSimpArgs false
set_option linter.unusedVariables false
set_option linter.unusedSimpArgs false
namespace Go.Proofs.YtcfgjmdfpnfkjaaGreatDoor
open Go.RowKit

theorem NumS.at {s : ByteArray} (h : NumS s) {i : Nat} (hi : i < s.size) : nmC s[i].toNat = true :=
  h _ (by
    show s.data[i] ∈ s.data.toList
    rw [← Array.getElem_toList]
    exact List.getElem_mem _)
theorem NumS.extract {s : ByteArray} (h : NumS s) (a b : Nat) : NumS (s.extract a b) := fun c hc => h c (by
  rw [ByteArray.data_extract, Array.toList_extract] at hc
  exact List.mem_of_mem_drop (List.mem_of_mem_take hc))
theorem nmC_cases {c : Nat} (h : nmC c = true) : (48 ≤ c ∧ c ≤ 57) ∨ c = 43 ∨ c = 45 ∨ c = 46 ∨ c = 69 ∨ c = 101 := by
  simp [nmC] at h; omega

set_option maxRecDepth 100000 in
theorem pre_g (s p : ByteArray) (hn : NumS s) (w : World) (hs : s.size ≤ 1048576) (hp8 : p.size = 8) (hp0 : 0 < p.size) (hpc : p[0].toNat = 105) : Calls Tryz.prog 110 #[.string s, .string p] w fun en w' => en = .returned (.int .i64 0) ∧ w' = w := by
  by_cases h0 : 0 < s.size
  · have hc := nmC_cases (hn.at h0)
    have hp : decide (0 < s.size) = true := decide_eq_true h0
    have H0 := Sd.mk h0
    have q1 : ((s[0].toNat : Int) != (p[0].toNat : Int)) = true := by rw [hpc]; simp; omega
    have q2 : ((s[0].toNat : Int) + 32 != (p[0].toNat : Int)) = true := by rw [hpc]; simp; omega
    have q3 : s[0].toNat ≤ 101 := by omega
    have q4 : 43 ≤ s[0].toNat := by omega
    clear hn hc hpc
    go_enter Tryz.func110, Tryz.ntmps110
    go_wp2_with fail
    all_goals
      refine wp_loop_rounds 1 ?_
      rw [rounds_succ]
      go_wp2_with fail
      all_goals
        go_ret
        exact ⟨rfl, rfl⟩
  · have hz : s.size = 0 := by omega
    clear hn hpc
    go_enter Tryz.func110, Tryz.ntmps110
    go_wp2_with fail
    refine wp_loop_rounds 1 ?_
    rw [rounds_succ]
    go_wp2_with fail
    go_ret
    exact ⟨rfl, rfl⟩
theorem pre_c (s : ByteArray) (hn : NumS s) (w : World) (hs : s.size ≤ 1048576) : Calls Tryz.prog 110 #[.string s, .string ⟨#[105, 110, 102, 105, 110, 105, 116, 121]⟩] w fun en w' => en = .returned (.int .i64 0) ∧ w' = w :=
  pre_g s _ hn w hs rfl (by decide) rfl

set_option maxRecDepth 100000 in
set_option maxHeartbeats 1000000 in
/-- A number's text is no special one. -/
theorem special_c (s : ByteArray) (hn : NumS s) (w : World) (hs : s.size ≤ 1048576) : Calls Tryz.prog 88 #[.string s] w fun en w' => en = .returned (.tuple #[.float .f64 0, .int .i64 0, .bool false]) ∧ w' = w := by
  by_cases h0 : 0 < s.size
  · have hc := nmC_cases (hn.at h0)
    have hp : decide (0 < s.size) = true := decide_eq_true h0
    have h1 : 1 ≤ s.size := h0
    have he := Sd.mk (hn.extract 1 s.size)
    have hes : (s.extract 1 s.size).size ≤ 1048576 := by rw [ByteArray.size_extract]; omega
    have hz : ((s.size : Int) == 0) = false := beq_eq_false_iff_ne.2 (by omega)
    obtain ⟨c, hcc⟩ : ∃ c, c = s[0].toNat := ⟨_, rfl⟩
    rw [← hcc] at hc
    have hcc' : s[0].toNat = c := hcc.symm
    have q1 : ((c : Int) == 105) = false := by simp; omega
    have q2 : ((c : Int) == 73) = false := by simp; omega
    have q3 : ((c : Int) == 110) = false := by simp; omega
    have q4 : ((c : Int) == 78) = false := by simp; omega
    clear hn hcc hc
    have HES := Sd.mk hes
    clear hes
    cases p1 : ((c : Int) == 43)
    · cases p2 : ((c : Int) == 45)
      · go_enter Tryz.func88, Tryz.ntmps88
        go_wp2_with fail
        go_ret3
        exact ⟨rfl, rfl⟩
      · go_enter Tryz.func88, Tryz.ntmps88
        go_wp2_with (first | (go_at_call 110; refine (pre_c _ he.out _ HES.out).mono ?_; rintro e w' ⟨rfl, rfl⟩) | fail)
        go_ret3
        exact ⟨rfl, rfl⟩
    · go_enter Tryz.func88, Tryz.ntmps88
      go_wp2_with (first | (go_at_call 110; refine (pre_c _ he.out _ HES.out).mono ?_; rintro e w' ⟨rfl, rfl⟩) | fail)
      go_ret3
      exact ⟨rfl, rfl⟩
  · have hz : s.size = 0 := by omega
    go_enter Tryz.func88, Tryz.ntmps88
    go_wp2_with fail
    go_ret3
    exact ⟨rfl, rfl⟩

end Go.Proofs.YtcfgjmdfpnfkjaaGreatDoor
