/- Parts of the proof of the statement that this folder hands in: lemmas and contracts (C). -/
import Derived.Test.YtcfgjmdfpnfkjaaGreatDoorB
import Derived.Maps.AppendAt
set_option linter.unusedSimpArgs false
set_option linter.unusedVariables false
set_option linter.unusedSimpArgs false
namespace Go.Proofs.YtcfgjmdfpnfkjaaGreatDoor
open Go.RowKit

theorem ret_int {k : IntKind} {a b : Int} (h : a = b) : Ending.returned (.int k a) = .returned (.int k b) := by rw [h]
/-- How many blanks and tabs stand from place j on. -/
def leadF (s : ByteArray) : Nat → Nat → Nat
  | 0, j => j
  | f + 1, j => if h : j < s.size then if ((s[j].toNat : Int) == 32 || (s[j].toNat : Int) == 9) = true then leadF s f (j + 1) else j else j
def lead (s : ByteArray) : Nat := leadF s s.size 0
theorem leadF_le (s : ByteArray) : ∀ f j, f + j = s.size → leadF s f j ≤ s.size
  | 0, j, h => by simp [leadF]; omega
  | f + 1, j, h => by
    unfold leadF
    split
    · split
      · exact leadF_le s f (j + 1) (by omega)
      · omega
    · omega
theorem lead_le (s : ByteArray) : lead s ≤ s.size := leadF_le s _ _ (by omega)
theorem leadF_step {s : ByteArray} {f j : Nat} (h : j < s.size) (hb : ((s[j].toNat : Int) == 32 || (s[j].toNat : Int) == 9) = true) : leadF s (f + 1) j = leadF s f (j + 1) := by
  rw [leadF, dif_pos h, if_pos hb]
theorem leadF_stop {s : ByteArray} {f j : Nat} (h : j < s.size) (hb : ((s[j].toNat : Int) == 32 || (s[j].toNat : Int) == 9) = false) : leadF s f j = j := by
  cases f with
  | zero => rfl
  | succ f => rw [leadF, dif_pos h, if_neg (by rw [hb]; simp)]
theorem leading_c (s : ByteArray) (w : World) (hs : s.size ≤ 4194304) : Calls Tryz.prog 107 #[.string s] w fun e w' => e = .returned (.int .i64 (lead s)) ∧ w' = w := by
  go_enter Tryz.func107, Tryz.ntmps107
  go_wp2_with fail
  go_loopg [3] s.size (fun g v3 wr => ∃ j : Nat, v3 = .int .i64 j ∧ g + j = s.size ∧ w = wr ∧ Sd (leadF s g j = lead s))
  case atStart => exact ⟨0, rfl, by omega, rfl, ⟨rfl⟩⟩
  case round =>
    obtain ⟨j, rfl, hg, rfl, HL⟩ := hrel
    by_cases hj : j < s.size
    · obtain ⟨k, rfl⟩ : ∃ k, gk = k + 1 := ⟨gk - 1, by omega⟩
      by_cases h32 : ((s[j].toNat : Int) == 32) = true
      · have HS := Sd.mk ((leadF_step (f := k) hj (by rw [h32]; rfl)).symm.trans HL.out)
        clear HL
        go_wp2_with fail
        go_roundg k
        case measure => omega
        case rel => exact ⟨j + 1, by go_num, by omega, rfl, HS⟩
      · rw [Bool.not_eq_true] at h32
        by_cases h9 : ((s[j].toNat : Int) == 9) = true
        · have HS := Sd.mk ((leadF_step (f := k) hj (by rw [h32, h9]; rfl)).symm.trans HL.out)
          clear HL
          go_wp2_with fail
          go_roundg k
          case measure => omega
          case rel => exact ⟨j + 1, by go_num, by omega, rfl, HS⟩
        · rw [Bool.not_eq_true] at h9
          have HS := Sd.mk ((leadF_stop (f := k + 1) hj (by rw [h32, h9]; rfl)).symm.trans HL.out)
          clear HL
          go_wp2_with fail
          go_ret
          exact ⟨ret_int (congrArg Int.ofNat HS.out), rfl⟩
    · have HS : Sd (j = lead s) := ⟨by have := HL.out; (obtain rfl : gk = 0 := by omega); exact this⟩
      clear HL
      go_wp2_with fail
      go_ret
      exact ⟨ret_int (congrArg Int.ofNat HS.out), rfl⟩

/-- A row of strings that the call has made. -/
def SRow (w : World) (B : Nat) (v : Value) (n m : Nat) : Prop :=
  ∃ g o c cur, v = .slice (some ⟨g, o, none⟩) n c ∧ n ≤ c ∧ B ≤ g ∧ w.heap[g]? = some (.cells cur 9 (0, 0)) ∧ ∀ i, i < n → ∃ t : ByteArray, cur[o + i]? = some (.string t) ∧ t.size ≤ m
theorem SRow.ext {w w' : World} {B : Nat} {v : Value} {n m : Nat} (h : SRow w B v n m) (e : Ext w w') : SRow w' B v n m := by
  obtain ⟨g, o, c, cur, h1, h2, h3, h4, h5⟩ := h
  exact ⟨g, o, c, cur, h1, h2, h3, box_ext h4 e, h5⟩
theorem SRow.of_owns {w : World} {B n m : Nat} {v : Value} {xs : List Value} (h : w.ownsRow B 9 1 v n xs) (hn : 0 < n) (hx : ∀ x ∈ xs, ∃ t : ByteArray, x = .string t ∧ t.size ≤ m) : SRow w B v n m := by
  obtain ⟨hl, ⟨_, h0⟩ | ⟨g, cap, cur, h1, h2, h3, h4, h5, h6, h7⟩⟩ := h
  · omega
  · refine ⟨g, 0, cap, cur, h1, h4, h2, h3, fun i hi => ?_⟩
    have hlt : i < xs.length := by omega
    obtain ⟨t, ht, hs⟩ := hx _ (List.getElem_mem hlt)
    refine ⟨t, ?_, hs⟩
    rw [Nat.zero_add, ← ht]
    have : xs[i]? = some xs[i] := List.getElem?_eq_getElem hlt
    rw [← this, ← h7, List.getElem?_take_of_lt (by omega)]
    simp

/-- What Lines gives. -/
def LinesRes (s : ByteArray) (w : World) (e : Ending) (w' : World) : Prop := (∃ v n, e = .returned v ∧ 0 < n ∧ n ≤ s.size + 1 ∧ SRow w' w.heap.size v n s.size) ∧ Ext w w'

theorem info9 : (Tryz.prog.info? 9).map (fun i => (i.zero, i.size, i.bytes)) = some (some (.string ⟨#[]⟩), 1, 16) := by kernel_rfl
theorem info_parts {T : TypeId} {z : Value} {a b : Nat} (h : (Tryz.prog.info? T).map (fun i => (i.zero, i.size, i.bytes)) = some (some z, a, b)) : ∃ i, Tryz.prog.info? T = some i ∧ i.zero = some z ∧ i.size = a ∧ i.bytes = b := by
  cases h' : Tryz.prog.info? T with
  | none => rw [h'] at h; cases h
  | some i => rw [h'] at h; simp at h; exact ⟨i, rfl, h.1, h.2.1, h.2.2⟩
theorem sub_le (s : ByteArray) (a b : Nat) : (s.extract a b).size ≤ s.size := by rw [ByteArray.size_extract]; omega
theorem cell_one_new {w : World} (v : Value) (t : TypeId) : ∀ (j : Nat) u, [v][j]? = some u → (w.alloc (.cells #[v] t (0, 0))).cell? ((⟨w.heap.size, 0, none⟩ : Addr).add j) = some u := by
  intro j u h
  cases j with
  | zero =>
    simp only [List.getElem?_cons_zero, Option.some.injEq] at h
    subst h
    rw [Addr.add_zero', box_cell (box_alloc w _)]; rfl
  | succ j => simp at h

theorem strs_snoc {xs : List Value} {m : Nat} (h : ∀ x ∈ xs, ∃ t : ByteArray, x = .string t ∧ t.size ≤ m) {t : ByteArray} (ht : t.size ≤ m) : ∀ x ∈ xs ++ [.string t], ∃ t : ByteArray, x = .string t ∧ t.size ≤ m := by
  intro x hx
  rcases List.mem_append.1 hx with h1 | h1
  · exact h x h1
  · rw [List.mem_singleton] at h1; exact ⟨t, h1, ht⟩

set_option maxHeartbeats 4000000 in
set_option maxRecDepth 100000 in
theorem lines_c (s : ByteArray) (w : World) (hs : s.size ≤ 4194304) : Calls Tryz.prog 106 #[.string s] w (LinesRes s w) := by
  obtain ⟨i0, hi, hz0, hz1, hz2⟩ := info_parts info9
  go_enter Tryz.func106, Tryz.ntmps106
  go_wp2_with fail
  go_loopg [3, 4, 5] s.size (fun g v3 v4 v5 wr => ∃ (a j n : Nat) (xs : List Value), v4 = .int .i64 a ∧ v5 = .int .i64 j ∧ a ≤ s.size ∧ a ≤ j ∧ j ≤ s.size ∧ n ≤ j ∧ g + j = s.size ∧ Sd (Ext w wr) ∧
    Sd (wr.ownsRow w.heap.size 9 1 v3 n xs) ∧ Sd (∀ x ∈ xs, ∃ t : ByteArray, x = .string t ∧ t.size ≤ s.size))
  case atStart =>
    exact ⟨0, 0, 0, [], rfl, rfl, by omega, by omega, by omega, by omega, by omega, ⟨(Ext.refl _).alloc _⟩, ⟨⟨by simp, .inr ⟨w.heap.size, 0, #[], rfl, Nat.le_refl _, box_alloc _ _, by simp, by simp, by simp, by simp⟩⟩⟩, ⟨by simp⟩⟩
  case round =>
    obtain ⟨a, j, n, xs, rfl, rfl, ha, haj, hj8, hnj, hg, HE, HO, HX⟩ := hrel
    by_cases hj : j < s.size
    · go_wp2_with (at_builtin; refine wpList_append_own_at _ rfl (.tmp 23) (.tmp 28) 190 rfl w.heap.size 9 i0 (.string ⟨#[]⟩) 1 16 Tryz.underlying190 hi hz0 hz1 hz2 rfl (by decide) _ _ _ rfl (HO.out.alloc _) ⟨wr.heap.size, 0, none⟩ 1 1 [.string (s.extract a j)] rfl rfl (cell_one_new _ _) (by simp [Value.oneCell']) (by unfold maxLen; omega) (by omega) (by have := HE.out.size; simp; omega) ?_; refine Hid.out ?_)
      all_goals first
        | (refine Lib.hid ?_
           intro v' w1 hown' hgrow _ hat
           have HE1 := Sd.mk (Ext.grown (HE.out.alloc (.cells #[.string (s.extract a j)] 9 (0, 0))) hgrow (Nat.le_refl _) (owns_base HO.out))
           have HO1 := Sd.mk hown'
           have HX1 := Sd.mk (strs_snoc HX.out (sub_le s a j))
           clear hown' hgrow hat HO HX HE
           go_wp2_with fail
           all_goals first
             | (go_roundg (s.size - (j + 1))
                case measure => omega
                case rel => exact ⟨j + 1, j + 1, n + 1, _, by go_num, by go_num, by omega, by omega, by omega, by omega, by omega, HE1, HO1, HX1⟩)
             | (go_roundg (s.size - (j + 2))
                case measure => omega
                case rel => exact ⟨j + 2, j + 2, n + 1, _, by go_num, by go_num, by omega, by omega, by omega, by omega, by omega, HE1, HO1, HX1⟩))
        | (go_roundg (s.size - (j + 1))
           case measure => omega
           case rel => exact ⟨a, j + 1, n, xs, rfl, by go_num, by omega, by omega, by omega, by omega, by omega, HE, HO, HX⟩)
    · go_wp2_with (at_builtin; refine wpList_append_own_at _ rfl (.tmp 52) (.tmp 56) 190 rfl w.heap.size 9 i0 (.string ⟨#[]⟩) 1 16 Tryz.underlying190 hi hz0 hz1 hz2 rfl (by decide) _ _ _ rfl (HO.out.alloc _) ⟨wr.heap.size, 0, none⟩ 1 1 [.string (s.extract a s.size)] rfl rfl (cell_one_new _ _) (by simp [Value.oneCell']) (by unfold maxLen; omega) (by omega) (by have := HE.out.size; simp; omega) ?_; refine Hid.out ?_)
      refine Lib.hid ?_
      intro v' w1 hown' hgrow _ hat
      have HE1 := Sd.mk (Ext.grown (HE.out.alloc (.cells #[.string (s.extract a s.size)] 9 (0, 0))) hgrow (Nat.le_refl _) (owns_base HO.out))
      have HO1 := Sd.mk hown'
      have HX1 := Sd.mk (strs_snoc HX.out (sub_le s a s.size))
      clear hown' hgrow hat HO HX HE
      go_wp2_with fail
      go_ret
      exact ⟨⟨_, n + 1, rfl, by omega, by omega, SRow.of_owns HO1.out (by omega) HX1.out⟩, HE1.out⟩

end Go.Proofs.YtcfgjmdfpnfkjaaGreatDoor
