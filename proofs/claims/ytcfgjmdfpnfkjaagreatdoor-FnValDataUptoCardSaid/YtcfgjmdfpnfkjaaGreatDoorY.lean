/- Parts of the proof of the statement that this folder hands in: lemmas and contracts (Y). -/
import Derived.Test.YtcfgjmdfpnfkjaaGreatDoorX
set_option linter.unusedSimpArgs false
set_option linter.unusedVariables false
set_option linter.unusedSimpArgs false
namespace Go.Proofs.YtcfgjmdfpnfkjaaGreatDoor
open Go.RowKit Pf

/-- A text's bytes as numbers. -/
def nums (s : ByteArray) : List Nat := s.toList.map UInt8.toNat
theorem nums_drop {s : ByteArray} {j : Nat} (h : j < s.size) : (nums s).drop j = (s[j].toNat) :: (nums s).drop (j + 1) := by
  have hl : (nums s).length = s.size := by unfold nums; rw [List.length_map, str_size]
  rw [List.drop_eq_getElem_cons (by omega)]
  congr 1
  unfold nums
  rw [List.getElem_map]
  congr 1
  have : s.toList[j]'(by rw [str_size]; exact h) = s[j] := by
    simp only [ByteArray.toList_eq, Array.getElem_toList]; rfl
  exact this
theorem nums_end {s : ByteArray} : (nums s).drop s.size = [] := by
  apply List.drop_of_length_le; unfold nums; rw [List.length_map, str_size]; exact Nat.le_refl _
theorem plt_end (D : Nat → Nat) (nd : Nat) {s : ByteArray} {j : Nat} (h : s.size ≤ j) : plt D nd ((nums s).drop j) j = false := by
  rw [List.drop_of_length_le (by unfold nums; rw [List.length_map, str_size]; exact h)]; rfl
theorem plt_past {D : Nat → Nat} {nd : Nat} {s : ByteArray} {j : Nat} (h : j < s.size) (hn : nd ≤ j) : plt D nd ((nums s).drop j) j = true := by
  rw [nums_drop h]; exact if_pos hn
theorem plt_same {D : Nat → Nat} {nd : Nat} {s : ByteArray} {j : Nat} (h : j < s.size) (hn : ¬ nd ≤ j) (e : D j = s[j].toNat) : plt D nd ((nums s).drop j) j = plt D nd ((nums s).drop (j + 1)) (j + 1) := by
  rw [nums_drop h]; exact (if_neg hn).trans (if_pos e)
theorem plt_differ {D : Nat → Nat} {nd : Nat} {s : ByteArray} {j : Nat} (h : j < s.size) (hn : ¬ nd ≤ j) (e : ¬ D j = s[j].toNat) : plt D nd ((nums s).drop j) j = decide (D j < s[j].toNat) := by
  rw [nums_drop h]; exact (if_neg hn).trans (if_neg e)
theorem drewN_add (w : World) (a b : Nat) : (w.drewN a).drewN b = w.drewN (a + b) := by
  simp [World.drewN, Nat.add_assoc]
theorem ret_bool {a b : Bool} (h : a = b) : Ending.returned (.bool a) = .returned (.bool b) := by rw [h]

set_option maxRecDepth 100000 in
theorem prefix_c (D : Nat → Nat) (nd cap b : Nat) (s : ByteArray) (w : World) (hs : s.size ≤ 4096) (hn : nd ≤ 800) (hD : ∀ i, i < 800 → w.cell? ⟨b, i, none⟩ = some (.int .u8 (D i))) :
    Calls Tryz.prog 135 #[.slice (some ⟨b, 0, none⟩) nd cap, .string s] w fun en w' => en = .returned (.bool (plt D nd (nums s) 0)) ∧ ∃ n, w' = w.drewN n := by
  have HD := Sd.mk hD
  clear hD
  go_enter Tryz.func135, Tryz.ntmps135
  go_wp2_with fail
  go_loopg [5] s.size (fun g v5 wr => ∃ j : Nat, v5 = .int .i64 j ∧ g + j = s.size ∧ Sd (∃ n, wr = w.drewN n) ∧ Sd (plt D nd ((nums s).drop j) j = plt D nd (nums s) 0))
  case atStart => exact ⟨0, rfl, by omega, ⟨0, rfl⟩, ⟨rfl⟩⟩
  case round =>
    obtain ⟨j, rfl, hg, HW, HL⟩ := hrel
    by_cases hj : j < s.size
    · by_cases hnj : nd ≤ j
      · have HS := Sd.mk ((plt_past hj hnj).symm.trans HL.out)
        clear HL
        have hq : decide ((nd : Int) ≤ (j : Int)) = true := decide_eq_true (by omega)
        go_wp2_with fail
        go_ret
        exact ⟨ret_bool HS.out, HW.out⟩
      · obtain ⟨k, rfl⟩ : ∃ k, gk = k + 1 := ⟨gk - 1, by omega⟩
        obtain ⟨n0, hn0⟩ := HW.out
        have f : wr.cell? ⟨b, j, none⟩ = some (.int .u8 (D j)) := by rw [hn0]; exact HD.out j (by omega)
        have hq : decide ((nd : Int) ≤ (j : Int)) = false := decide_eq_false (by omega)
        have hd1 : decide (j < nd) = true := decide_eq_true (by omega)
        have hd2 : decide (j < s.size) = true := decide_eq_true hj
        have HN := Sd.mk hn0
        clear hn0 HW
        by_cases h1 : D j = s[j].toNat
        · have HS := Sd.mk ((plt_same hj hnj h1).symm.trans HL.out)
          have hb : ((D j : Int) != (s[j].toNat : Int)) = false := by simp; omega
          clear HL
          go_wp2_with fail
          go_quiet (fail)
          go_wp2_with fail
          go_roundg k
          case measure => omega
          case rel => exact ⟨j + 1, by go_num, by omega, ⟨_, by rw [HN.out]; exact drewN_add _ _ _⟩, HS⟩
        · have HS := Sd.mk ((plt_differ hj hnj h1).symm.trans HL.out)
          have hb : ((D j : Int) != (s[j].toNat : Int)) = true := by simp; omega
          clear HL
          go_wp2_with fail
          go_quiet (fail)
          go_wp2_with fail
          go_quiet (fail)
          go_wp2_with fail
          go_ret
          exact ⟨ret_bool HS.out, _, by rw [HN.out, drewN_add]; exact drewN_add _ _ _⟩
    · have HS := Sd.mk ((plt_end D nd (show s.size ≤ j by omega)).symm.trans HL.out)
      clear HL
      go_wp2_with fail
      go_ret
      exact ⟨ret_bool HS.out, HW.out⟩

end Go.Proofs.YtcfgjmdfpnfkjaaGreatDoor
