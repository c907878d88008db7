/- Parts of the proof of the statement that this folder hands in: lemmas and contracts (E). -/
import Derived.Test.YtcfgjmdfpnfkjaaGreatDoorD
import Derived.IntWalk
set_option linter.unusedSimpArgs false
set_option linter.unusedVariables false
set_option linter.unusedSimpArgs false
namespace Go.Proofs.YtcfgjmdfpnfkjaaGreatDoor
open Go.RowKit

/-- The cells of a row of strings. -/
def SC (cur : Array Value) (o n m : Nat) : Prop := ∀ i, i < n → ∃ t : ByteArray, cur[o + i]? = some (.string t) ∧ t.size ≤ m
theorem SC.set {cur : Array Value} {o n m : Nat} (h : SC cur o n m) (k : Nat) {t : ByteArray} (ht : t.size ≤ m) : SC (cur.setIfInBounds k (.string t)) o n m := by
  intro i hi
  obtain ⟨t', h1, h2⟩ := h i hi
  by_cases e : k = o + i
  · subst e
    refine ⟨t, ?_, ht⟩
    rw [Array.getElem?_setIfInBounds_self, if_pos]
    exact (Array.getElem?_eq_some_iff.1 h1).1
  · exact ⟨t', by rw [Array.getElem?_setIfInBounds_ne e]; exact h1, h2⟩

theorem SC.tail {cur : Array Value} {o n m : Nat} (h : SC cur o n m) : SC cur (o + 1) (n - 1) m := by
  intro i hi
  have := h (i + 1) (by omega)
  rwa [show o + (i + 1) = o + 1 + i by omega] at this
theorem sz2 (a b : ByteArray) : (a ++ ⟨#[10]⟩ ++ b).size = a.size + 1 + b.size := by rw [ByteArray.size_append, ByteArray.size_append]; rfl
theorem sz1 (a b : ByteArray) : (a ++ b).size ≤ a.size + 1 + b.size := by rw [ByteArray.size_append]; omega
def BvRes (s : ByteArray) (w : World) (e : Ending) (w' : World) : Prop := (∃ t : ByteArray, e = .returned (.string t) ∧ t.size ≤ (s.size + 1) * (s.size + 1)) ∧ Ext w w'

set_option maxHeartbeats 8000000 in
set_option maxRecDepth 100000 in
theorem blockValue_c (s : ByteArray) (w : World) (hs : s.size ≤ 4194304) : Calls Tryz.prog 85 #[.string s] w (BvRes s w) := by
  go_enter Tryz.func85, Tryz.ntmps85
  go_wp2_with fail
  refine (lines_c s _ hs).mono ?_
  rintro e w1 ⟨⟨v, n, rfl, hn, hn2, hR⟩, he⟩
  have HE := Sd.mk he
  clear he
  obtain ⟨g, o, c, cur, rfl, hnc, hB, hb, ht⟩ := hR
  have HB := Sd.mk hB
  have HC : Sd (SC cur o n s.size) := ⟨ht⟩
  have HH := Sd.mk hb
  clear ht hB hb
  go_wp2_with fail
  go_loopg [4, 17] n (fun k v4 v17 wr => ∃ (j : Nat) (c' : Int), v17 = .int .i64 j ∧ v4 = .int .i64 c' ∧ -1 ≤ c' ∧ c' ≤ s.size ∧ k + j = n ∧ w1 = wr)
  case atStart => exact ⟨0, -1, rfl, rfl, by omega, by omega, by omega, rfl⟩
  case round =>
    obtain ⟨j, c', rfl, rfl, hc0, hc1, hg, rfl⟩ := hrel
    by_cases hj : j < n
    · obtain ⟨t, e0, hst⟩ := HC.out j hj
      have f := box_cell HH.out
      have hl := lead_le t
      go_wp2_with (first
        | (go_at_call 107; refine (leading_c _ _ (by omega)).mono ?_; rintro e w' ⟨rfl, rfl⟩)
        | fail)
      all_goals
        go_roundg (n - (j + 1))
        case measure => omega
        case rel => first
          | exact ⟨j + 1, c', by go_num, rfl, by omega, by omega, by omega, rfl⟩
          | exact ⟨j + 1, lead t, by go_num, rfl, by omega, by omega, by omega, rfl⟩
    · go_wp2_with fail
      clear hg hj
      go_loopg [45] n (fun k v45 wr => ∃ (j : Nat), v45 = .int .i64 j ∧ k + j = n ∧ Sd (Ext w wr) ∧ ∃ cur', Sd (wr.heap[g]? = some (.cells cur' 9 (0, 0))) ∧ Sd (SC cur' o n s.size))
      case atStart => exact ⟨0, rfl, by omega, HE, cur, HH, HC⟩
      case round =>
        obtain ⟨j, rfl, hg, HE2, cur', HH2, HC2⟩ := hrel
        clear HE HH HC
        have f := box_cell HH2.out
        have fz := box_frozen HH2.out
        by_cases hj : j < n
        · obtain ⟨t, e0, hst⟩ := HC2.out j hj
          by_cases hcp : 0 < j ∧ 0 < c'
          · obtain ⟨hj0, hcp⟩ := hcp
            obtain ⟨cn, rfl⟩ : ∃ cn : Nat, c' = cn := ⟨c'.toNat, by omega⟩
            by_cases hmn : cn ≤ t.size
            · go_wp2_with fail
              go_roundg (n - (j + 1))
              case measure => omega
              case rel => exact ⟨j + 1, by go_num, by omega, ⟨HE2.out.setCell HB.out _⟩, _, ⟨box_set HH2.out _ _⟩, ⟨HC2.out.set _ (Nat.le_trans (sub_le _ _ _) hst)⟩⟩
            · go_wp2_with fail
              go_roundg (n - (j + 1))
              case measure => omega
              case rel => exact ⟨j + 1, by go_num, by omega, ⟨HE2.out.setCell HB.out _⟩, _, ⟨box_set HH2.out _ _⟩, ⟨HC2.out.set _ (Nat.zero_le _)⟩⟩
          · have hc2 : ¬ (0 < j) ∨ c' ≤ 0 := by omega
            clear hcp
            rcases hc2 with hc2 | hc2
            all_goals
              go_wp2_with fail
              all_goals
                go_roundg (n - (j + 1))
                case measure => omega
                case rel => exact ⟨j + 1, by go_num, by omega, HE2, cur', HH2, HC2⟩
        · go_wp2_with fail
          clear f fz hg hj
          go_loopg [3] n (fun k v3 wr => ∃ (o3 n3 c3 : Nat), v3 = .slice (some ⟨g, o3, none⟩) n3 c3 ∧ n3 ≤ c3 ∧ n3 ≤ n ∧ k = n3 ∧ Sd (Ext w wr) ∧ Sd (wr.heap[g]? = some (.cells cur' 9 (0, 0))) ∧ Sd (SC cur' o3 n3 s.size))
          case atStart => exact ⟨o, n, c, rfl, hnc, by omega, rfl, HE2, HH2, HC2⟩
          case round =>
            obtain ⟨o3, n3, c3, rfl, hnc3, hn3, hk3, HE3, HH3, HC3⟩ := hrel
            clear HE2 HH2 HC2
            have HK := Sd.mk hk3
            clear hk3
            have f := box_cell HH3.out
            have hcase : (∃ t : ByteArray, 0 < n3 ∧ cur'[o3]? = some (.string t) ∧ t.size ≤ s.size ∧ ((lead t : Int) == (t.size : Int)) = true) ∨ (∃ t : ByteArray, 0 < n3 ∧ cur'[o3]? = some (.string t) ∧ t.size ≤ s.size ∧ ((lead t : Int) == (t.size : Int)) = false) ∨ n3 = 0 := by
              by_cases h0 : 0 < n3
              · obtain ⟨t, e0, hst⟩ := HC3.out 0 h0
                rw [Nat.add_zero] at e0
                cases hq : ((lead t : Int) == (t.size : Int))
                · exact Or.inr (Or.inl ⟨t, h0, e0, hst, hq⟩)
                · exact Or.inl ⟨t, h0, e0, hst, hq⟩
              · exact Or.inr (Or.inr (by omega))
            rcases hcase with ⟨t, h0, e0, hst, hq⟩ | ⟨t, h0, e0, hst, hqf⟩ | h0n
            · have hlt : decide (0 < n3) = true := by simpa using h0
              have hl := lead_le t
              by_cases hc1 : c3 = 1
              · subst hc1
                go_wp2_with fail
                go_quiet ((go_at_call 107; exact Calls.quiet_of_same (leading_c _ _ (by omega))))
                clear e0
                go_wp2_with fail
                go_roundg (n3 - 1)
                case measure => have := HK.out; omega
                case rel => exact ⟨o3, 0, 0, rfl, by omega, by omega, by omega, ⟨Ext.drewN HE3.out _⟩, HH3, ⟨fun i hi => absurd hi (by omega)⟩⟩
              · go_wp2_with fail
                go_quiet ((go_at_call 107; exact Calls.quiet_of_same (leading_c _ _ (by omega))))
                clear e0
                go_wp2_with fail
                go_roundg (n3 - 1)
                case measure => have := HK.out; omega
                case rel => exact ⟨o3 + 1, n3 - 1, c3 - 1, rfl, by omega, by omega, rfl, ⟨Ext.drewN HE3.out _⟩, HH3, ⟨HC3.out.tail⟩⟩
            all_goals first
              | (have hqf' := hqf
                 have hlt : decide (0 < n3) = true := by simpa using h0
                 have hl := lead_le t
                 go_wp2_with fail
                 go_quiet ((go_at_call 107; exact Calls.quiet_of_same (leading_c _ _ (by omega))))
                 go_wp2_with fail
                 clear e0 hqf hqf' hlt hl f)
              | (have hlt : decide (0 < n3) = false := by simp [h0n]
                 have h0' : ¬ 0 < n3 := by omega
                 have HN := Sd.mk h0n
                 clear h0n
                 go_wp2_with fail
                 go_quiet ((go_at_call 107; exact Calls.quiet_of_same (leading_c _ _ (by omega))))
                 go_wp2_with fail
                 clear hlt h0' HN f)
            all_goals
              have HE3' := Sd.mk (Ext.drewN HE3.out nq)
              have HH3' : Sd ((wr.drewN nq).heap[g]? = some (.cells cur' 9 (0, 0))) := HH3
              clear HE3 HH3 hn HK
              go_loopg [3] n3 (fun k v3 wr => ∃ (n4 c4 : Nat), v3 = .slice (some ⟨g, o3, none⟩) n4 c4 ∧ n4 ≤ c4 ∧ n4 ≤ n3 ∧ k = n4 ∧ Sd (Ext w wr) ∧ Sd (wr.heap[g]? = some (.cells cur' 9 (0, 0))) ∧ Sd (SC cur' o3 n4 s.size))
              case atStart => exact ⟨n3, c3, rfl, hnc3, by omega, rfl, HE3', HH3', HC3⟩
              case round =>
                obtain ⟨n4, c4, rfl, hnc4, hn4, hk4, HE4, HH4, HC4⟩ := hrel
                clear HE3' HH3' HC3
                have HK := Sd.mk hk4
                clear hk4
                have f := box_cell HH4.out
                have hcase : (∃ (t : ByteArray), 0 < n4 ∧ cur'[o3 + (n4 - 1)]? = some (.string t) ∧ t.size ≤ s.size ∧ ((lead t : Int) == (t.size : Int)) = true) ∨ (∃ (t : ByteArray), 0 < n4 ∧ cur'[o3 + (n4 - 1)]? = some (.string t) ∧ t.size ≤ s.size ∧ ((lead t : Int) == (t.size : Int)) = false) ∨ n4 = 0 := by
                  by_cases h0 : 0 < n4
                  · obtain ⟨t, e0, hst⟩ := HC4.out (n4 - 1) (by omega)
                    cases hq : ((lead t : Int) == (t.size : Int))
                    · exact Or.inr (Or.inl ⟨t, h0, e0, hst, hq⟩)
                    · exact Or.inl ⟨t, h0, e0, hst, hq⟩
                  · exact Or.inr (Or.inr (by omega))
                rcases hcase with ⟨t, h0, e0, hst, hq⟩ | ⟨t, h0, e0, hst, hqf⟩ | h0n
                · have hl := lead_le t
                  have hc107 : t.size ≤ 4194304 := by omega
                  have hlt : decide (0 < n4) = true := by simpa using h0
                  have hw1 : IntKind.i64.wrap ((n4 : Int) - 1) = (n4 : Int) - 1 := IntWalk.i64_in _ (by omega)
                  have hw2 : (1 : Int) ≤ n4 := by omega
                  have hw3 : (0 : Int) ≤ (n4 : Int) - 1 := by omega
                  have hw4 : ((n4 : Int) - 1).toNat = n4 - 1 := by omega
                  have hw5 : n4 - 1 < n4 := by omega
                  go_wp2_with fail
                  go_quiet ((go_at_call 107; exact Calls.quiet_of_same (leading_c _ _ hc107)))
                  clear e0
                  go_wp2_with fail
                  go_roundg (n4 - 1)
                  case measure => have := HK.out; omega
                  case rel => exact ⟨n4 - 1, c4, rfl, by omega, by omega, rfl, ⟨Ext.drewN HE4.out _⟩, HH4, ⟨fun i hi => HC4.out i (by omega)⟩⟩
                all_goals first
                  | (have hqf' := hqf
                     have hl := lead_le t
                     have hc107 : t.size ≤ 4194304 := by omega
                     have hlt : decide (0 < n4) = true := by simpa using h0
                     have hw1 : IntKind.i64.wrap ((n4 : Int) - 1) = (n4 : Int) - 1 := IntWalk.i64_in _ (by omega)
                     have hw2 : (1 : Int) ≤ n4 := by omega
                     have hw3 : (0 : Int) ≤ (n4 : Int) - 1 := by omega
                     have hw4 : ((n4 : Int) - 1).toNat = n4 - 1 := by omega
                     have hw5 : n4 - 1 < n4 := by omega
                     go_wp2_with fail
                     go_quiet ((go_at_call 107; exact Calls.quiet_of_same (leading_c _ _ hc107)))
                     go_wp2_with fail
                     clear e0 hqf hqf' hl f hlt hw1 hw2 hw3 hw4 hw5)
                  | (have hlt : decide (0 < n4) = false := by simp [h0n]
                     have h0' : ¬ 0 < n4 := by omega
                     have HN := Sd.mk h0n
                     clear h0n
                     go_wp2_with fail
                     go_quiet ((go_at_call 107; exact Calls.quiet_of_same (leading_c _ _ (by omega))))
                     go_wp2_with fail
                     clear hlt h0' HN f)
                all_goals
                  have HE5 := Sd.mk (Ext.drewN HE4.out nq)
                  have HH5 : Sd ((wr.drewN nq).heap[g]? = some (.cells cur' 9 (0, 0))) := HH4
                  clear HE4 HH4 HK
                  go_loopg [10, 109] n4 (fun k v10 v109 wr => ∃ (j : Nat) (t' : ByteArray), v109 = .int .i64 j ∧ v10 = .string t' ∧ Sd (t'.size ≤ j * (s.size + 1)) ∧ k + j = n4 ∧ Sd (Ext w wr) ∧ Sd (wr.heap[g]? = some (.cells cur' 9 (0, 0))))
                  case atStart => exact ⟨0, ⟨#[]⟩, rfl, rfl, ⟨Nat.zero_le _⟩, by omega, HE5, HH5⟩
                  case round =>
                    obtain ⟨j, t', rfl, rfl, HT, hg, HE6, HH6⟩ := hrel
                    clear HE5 HH5
                    have f := box_cell HH6.out
                    have hjm : j * (s.size + 1) ≤ (s.size + 1) * (s.size + 1) := Nat.mul_le_mul_right _ (by omega)
                    have hmm : (s.size + 1) * (s.size + 1) ≤ 4194305 * 4194305 := Nat.mul_le_mul (by omega) (by omega)
                    have hts : t'.size ≤ 17592194433025 := by have := HT.out; omega
                    have HM := Sd.mk hjm
                    clear hjm hmm
                    by_cases hj : j < n4
                    · obtain ⟨t2, e0, hst2⟩ := HC4.out j hj
                      have hnext : t'.size + 1 + t2.size ≤ (j + 1) * (s.size + 1) := by have := HT.out; rw [Nat.add_mul]; omega
                      have HN2 := Sd.mk hnext
                      clear hnext
                      by_cases hj0 : 0 < j
                      all_goals
                        go_wp2_with fail
                        go_roundg (n4 - (j + 1))
                        case measure => omega
                        case rel => exact ⟨j + 1, _, by go_num, rfl, ⟨Nat.le_trans (by first | exact Nat.le_of_eq (sz2 _ _) | exact sz1 _ _) HN2.out⟩, by omega, HE6, HH6⟩
                    · go_wp2_with fail
                      go_ret
                      exact ⟨⟨t', rfl, Nat.le_trans HT.out HM.out⟩, HE6.out⟩

end Go.Proofs.YtcfgjmdfpnfkjaaGreatDoor
