/- Parts of the proof of the statement that this folder hands in: lemmas and contracts (X). -/
import Derived.Test.YtcfgjmdfpnfkjaaGreatDoorS
import Derived.Test.YtcfgjmdfpnfkjaaGreatDoorPd
import Derived.BigQuiet
set_option linter.unusedSimpArgs false
set_option linter.unusedVariables false
set_option linter.unusedSimpArgs false
namespace Go.Proofs.YtcfgjmdfpnfkjaaGreatDoor
open Go.RowKit Pf

/-- The cells of a decimal. -/
structure Cs (cs : Array Value) (D : Nat → Nat) (nd : Nat) (dp : Int) (neg tr : Bool) : Prop where
  size : cs.size = 804
  dig : ∀ i, i < 800 → cs[i]? = some (.int .u8 (D i))
  n : cs[800]? = some (.int .i64 nd)
  p : cs[801]? = some (.int .i64 dp)
  g : cs[802]? = some (.bool neg)
  t : cs[803]? = some (.bool tr)
theorem Cs.upd {cs : Array Value} {D : Nat → Nat} {nd : Nat} {dp : Int} {neg tr : Bool} (h : Cs cs D nd dp neg tr) {i : Nat} (hi : i < 800) (x : Nat) : Cs (cs.setIfInBounds i (.int .u8 x)) (upd D i x) nd dp neg tr := by
  obtain ⟨h1, h2, h3, h4, h5, h6⟩ := h
  refine ⟨by simp [h1], fun j hj => ?_, ?_, ?_, ?_, ?_⟩
  · by_cases e : j = i
    · subst e; rw [upd_at, Array.getElem?_setIfInBounds_self_of_lt (by omega)]
    · rw [upd_ne _ _ e, Array.getElem?_setIfInBounds_ne (by omega)]; exact h2 j hj
  all_goals rw [Array.getElem?_setIfInBounds_ne (by omega)]; assumption
theorem Cs.setN {cs : Array Value} {D : Nat → Nat} {nd : Nat} {dp : Int} {neg tr : Bool} (h : Cs cs D nd dp neg tr) (x : Nat) : Cs (cs.setIfInBounds 800 (.int .i64 x)) D x dp neg tr := by
  obtain ⟨h1, h2, h3, h4, h5, h6⟩ := h
  refine ⟨by simp [h1], fun j hj => ?_, by rw [Array.getElem?_setIfInBounds_self_of_lt (by omega)], ?_, ?_, ?_⟩
  · rw [Array.getElem?_setIfInBounds_ne (by omega)]; exact h2 j hj
  all_goals rw [Array.getElem?_setIfInBounds_ne (by omega)]; assumption
theorem Cs.setP {cs : Array Value} {D : Nat → Nat} {nd : Nat} {dp : Int} {neg tr : Bool} (h : Cs cs D nd dp neg tr) (x : Int) : Cs (cs.setIfInBounds 801 (.int .i64 x)) D nd x neg tr := by
  obtain ⟨h1, h2, h3, h4, h5, h6⟩ := h
  refine ⟨by simp [h1], fun j hj => ?_, ?_, by rw [Array.getElem?_setIfInBounds_self_of_lt (by omega)], ?_, ?_⟩
  · rw [Array.getElem?_setIfInBounds_ne (by omega)]; exact h2 j hj
  all_goals rw [Array.getElem?_setIfInBounds_ne (by omega)]; assumption
theorem Cs.setG {cs : Array Value} {D : Nat → Nat} {nd : Nat} {dp : Int} {neg tr : Bool} (h : Cs cs D nd dp neg tr) (x : Bool) : Cs (cs.setIfInBounds 802 (.bool x)) D nd dp x tr := by
  obtain ⟨h1, h2, h3, h4, h5, h6⟩ := h
  refine ⟨by simp [h1], fun j hj => ?_, ?_, ?_, by rw [Array.getElem?_setIfInBounds_self_of_lt (by omega)], ?_⟩
  · rw [Array.getElem?_setIfInBounds_ne (by omega)]; exact h2 j hj
  all_goals rw [Array.getElem?_setIfInBounds_ne (by omega)]; assumption
theorem Cs.setT {cs : Array Value} {D : Nat → Nat} {nd : Nat} {dp : Int} {neg tr : Bool} (h : Cs cs D nd dp neg tr) (x : Bool) : Cs (cs.setIfInBounds 803 (.bool x)) D nd dp neg x := by
  obtain ⟨h1, h2, h3, h4, h5, h6⟩ := h
  refine ⟨by simp [h1], fun j hj => ?_, ?_, ?_, ?_, by rw [Array.getElem?_setIfInBounds_self_of_lt (by omega)]⟩
  · rw [Array.getElem?_setIfInBounds_ne (by omega)]; exact h2 j hj
  all_goals rw [Array.getElem?_setIfInBounds_ne (by omega)]; assumption

/-- A decimal in block b. -/
def DecAt (w : World) (b : Nat) (D : Nat → Nat) (nd : Nat) (dp : Int) (neg tr : Bool) : Prop :=
  ∃ cs, w.heap[b]? = some (.cells cs 176 (0, 0)) ∧ Cs cs D nd dp neg tr
section
variable {w : World} {b : Nat} {D : Nat → Nat} {nd : Nat} {dp : Int} {neg tr : Bool}
theorem DecAt.upd (h : DecAt w b D nd dp neg tr) {i : Nat} (hi : i < 800) (x : Nat) : DecAt (w.setCell ⟨b, i, none⟩ (.int .u8 x)) b (upd D i x) nd dp neg tr := by
  obtain ⟨cs, h1, h2⟩ := h; exact ⟨_, box_set h1 _ _, h2.upd hi x⟩
theorem DecAt.setN (h : DecAt w b D nd dp neg tr) (x : Nat) : DecAt (w.setCell ⟨b, 800, none⟩ (.int .i64 x)) b D x dp neg tr := by
  obtain ⟨cs, h1, h2⟩ := h; exact ⟨_, box_set h1 _ _, h2.setN x⟩
theorem DecAt.setP (h : DecAt w b D nd dp neg tr) (x : Int) : DecAt (w.setCell ⟨b, 801, none⟩ (.int .i64 x)) b D nd x neg tr := by
  obtain ⟨cs, h1, h2⟩ := h; exact ⟨_, box_set h1 _ _, h2.setP x⟩
theorem DecAt.setG (h : DecAt w b D nd dp neg tr) (x : Bool) : DecAt (w.setCell ⟨b, 802, none⟩ (.bool x)) b D nd dp x tr := by
  obtain ⟨cs, h1, h2⟩ := h; exact ⟨_, box_set h1 _ _, h2.setG x⟩
theorem DecAt.setT (h : DecAt w b D nd dp neg tr) (x : Bool) : DecAt (w.setCell ⟨b, 803, none⟩ (.bool x)) b D nd dp neg x := by
  obtain ⟨cs, h1, h2⟩ := h; exact ⟨_, box_set h1 _ _, h2.setT x⟩
theorem DecAt.dig (h : DecAt w b D nd dp neg tr) : ∀ i, i < 800 → w.cell? ⟨b, i, none⟩ = some (.int .u8 (D i)) := fun i hi => by
  obtain ⟨cs, h1, h2⟩ := h; rw [box_cell h1]; exact h2.dig i hi
theorem DecAt.n (h : DecAt w b D nd dp neg tr) : w.cell? ⟨b, 800, none⟩ = some (.int .i64 nd) := by
  obtain ⟨cs, h1, h2⟩ := h; rw [box_cell h1]; exact h2.n
theorem DecAt.p (h : DecAt w b D nd dp neg tr) : w.cell? ⟨b, 801, none⟩ = some (.int .i64 dp) := by
  obtain ⟨cs, h1, h2⟩ := h; rw [box_cell h1]; exact h2.p
theorem DecAt.g (h : DecAt w b D nd dp neg tr) : w.cell? ⟨b, 802, none⟩ = some (.bool neg) := by
  obtain ⟨cs, h1, h2⟩ := h; rw [box_cell h1]; exact h2.g
theorem DecAt.t (h : DecAt w b D nd dp neg tr) : w.cell? ⟨b, 803, none⟩ = some (.bool tr) := by
  obtain ⟨cs, h1, h2⟩ := h; rw [box_cell h1]; exact h2.t
theorem DecAt.fz (h : DecAt w b D nd dp neg tr) : ∀ i, w.frozen? ⟨b, i, none⟩ = false := by
  obtain ⟨cs, h1, h2⟩ := h; exact box_frozen h1
theorem DecAt.drewN (h : DecAt w b D nd dp neg tr) (k : Nat) : DecAt (w.drewN k) b D nd dp neg tr := h
end

set_option maxRecDepth 100000 in
theorem trim_c (wz : World) (b : Nat) (D : Nat → Nat) (nd : Nat) (dp : Int) (neg tr : Bool) (w : World) (hn : nd ≤ 800) (hb : wz.heap.size ≤ b) (hw : Ext wz w) (h : DecAt w b D nd dp neg tr) (hp : 0 < trimN D nd) :
    Calls Tryz.prog 136 #[.pointer (some ⟨b, 0, none⟩)] w fun en w' => en = .returned (.tuple #[]) ∧ Ext wz w' ∧ DecAt w' b D (trimN D nd) dp neg tr := by
  have HW := Sd.mk hw
  have HD := Sd.mk h
  have HP := Sd.mk hp
  clear hw h hp
  go_enter Tryz.func136, Tryz.ntmps136
  go_wp2_with fail
  go_loopg [] nd (fun g wr => g ≤ nd ∧ Sd (Ext wz wr) ∧ Sd (DecAt wr b D g dp neg tr) ∧ Sd (trimN D g = trimN D nd))
  case atStart => exact ⟨Nat.le_refl _, HW, HD, ⟨rfl⟩⟩
  case round =>
    clear HW HD
    obtain ⟨hg, HW, HD, HT⟩ := hrel
    have hpos : gk ≠ 0 := by
      intro e; subst e; have h1 := HT.out; have h2 := HP.out; rw [← h1] at h2; exact absurd h2 (Nat.lt_irrefl 0)
    obtain ⟨k, rfl⟩ : ∃ k, gk = k + 1 := ⟨gk - 1, by omega⟩
    clear hpos
    have f1 := HD.out.n
    have f2 := HD.out.dig k (by omega)
    have f3 := HD.out.p
    have fz := HD.out.fz
    have hk : wrap64 (((k + 1 : Nat) : Int) - 1) = (k : Int) := by unfold wrap64; omega
    have hd1 : decide ((0 : Int) < ((k + 1 : Nat) : Int)) = true := decide_eq_true (by omega)
    have hd2 : decide (k < 800) = true := decide_eq_true (by omega)
    by_cases h48 : D k = 48
    · have hq : ((D k : Int) == 48) = true := by rw [h48]; rfl
      have HT' : Sd (trimN D k = trimN D nd) := ⟨by rw [← HT.out]; exact (if_pos h48).symm⟩
      clear HT
      go_wp2_with fail
      go_quiet (fail)
      go_wp2_with fail
      go_roundg k
      case measure => omega
      case rel => exact ⟨by omega, ⟨(HW.out.drewN _).setCell hb _⟩, ⟨(HD.out.drewN _).setN k⟩, HT'⟩
    · have hq : ((D k : Int) == 48) = false := by simp; omega
      have HT' : Sd (k + 1 = trimN D nd) := ⟨by rw [← HT.out]; exact (if_neg h48).symm⟩
      clear HT
      have hz : (((k + 1 : Nat) : Int) == 0) = false := by simp; omega
      go_wp2_with fail
      go_quiet (fail)
      go_wp2_with fail
      go_end0
      exact ⟨rfl, HW.out.drewN _, by rw [← HT'.out]; exact HD.out.drewN _⟩

end Go.Proofs.YtcfgjmdfpnfkjaaGreatDoor
