/- Parts of the proof of the statement that this folder hands in: lemmas and contracts (Xd). -/
import Derived.Test.YtgkjdgolffnagaaGreatDoorXc
set_option linter.unusedSimpArgs false
set_option linter.unusedVariables false
namespace Go.Proofs.YtgkjdgolffnagaaGreatDoor
open Go.RowKit

set_option maxHeartbeats 0 in
set_option maxRecDepth 100000 in
theorem errorOf_false (g k : Nat) (A : Option Addr) (c : Nat) (w : World) (hg : w.heap[g]? = some (.cells #[.string one, .slice A 0 c, .iface 264 (.pointer (some ⟨k, 0, none⟩)), .slice none 0 0] 124 (0, 0))) :
    Calls Tryz.prog 29 #[.pointer (some ⟨g, 0, none⟩)] w fun e w' => (∃ cs, e = .returned (.agg cs) ∧ EofF cs w.heap.size w') ∧ Ext w w' := by
  have HG := Sd.mk hg
  clear hg
  go_enter Tryz.func29, Tryz.ntmps29
  go_upto_region 1 with (fail)
  have e0 : (w.alloc (.cells #[.string ⟨#[]⟩, .string ⟨#[]⟩, .slice none 0 0, .slice none 0 0, .string ⟨#[]⟩, .slice none 0 0, .slice none 0 0, .slice none 0 0] 49)).drew.cell? ⟨g, 0, none⟩ = some (.string one) := box_cell (box_keep HG.out _) 0
  have e1 : (w.alloc (.cells #[.string ⟨#[]⟩, .string ⟨#[]⟩, .slice none 0 0, .slice none 0 0, .string ⟨#[]⟩, .slice none 0 0, .slice none 0 0, .slice none 0 0] 49)).drew.cell? ⟨g, 1, none⟩ = some (.slice A 0 c) := box_cell (box_keep HG.out _) 1
  have kk1 := fun o => (show ((w.alloc (.cells #[.string ⟨#[]⟩, .string ⟨#[]⟩, .slice none 0 0, .slice none 0 0, .string ⟨#[]⟩, .slice none 0 0, .slice none 0 0, .slice none 0 0] 49)).alloc o).drew.cell? ⟨g, 0, none⟩ = some (.string one) from (((Ext.refl w).alloc _).alloc o).cell (box_cell HG.out 0))
  have kk2 := fun o => (show ((w.alloc (.cells #[.string ⟨#[]⟩, .string ⟨#[]⟩, .slice none 0 0, .slice none 0 0, .string ⟨#[]⟩, .slice none 0 0, .slice none 0 0, .slice none 0 0] 49)).alloc o).drew.cell? ⟨g, 1, none⟩ = some (.slice A 0 c) from (((Ext.refl w).alloc _).alloc o).cell (box_cell HG.out 1))
  have kk3 := fun o o' => (show (((w.alloc (.cells #[.string ⟨#[]⟩, .string ⟨#[]⟩, .slice none 0 0, .slice none 0 0, .string ⟨#[]⟩, .slice none 0 0, .slice none 0 0, .slice none 0 0] 49)).alloc o).alloc o').drew.cell? ⟨g, 0, none⟩ = some (.string one) from ((((Ext.refl w).alloc _).alloc o).alloc o').cell (box_cell HG.out 0))
  have kk4 := fun o o' => (show (((w.alloc (.cells #[.string ⟨#[]⟩, .string ⟨#[]⟩, .slice none 0 0, .slice none 0 0, .string ⟨#[]⟩, .slice none 0 0, .slice none 0 0, .slice none 0 0] 49)).alloc o).alloc o').drew.cell? ⟨g, 1, none⟩ = some (.slice A 0 c) from ((((Ext.refl w).alloc _).alloc o).alloc o').cell (box_cell HG.out 1))
  go_cut [3] from 6 to 15 (fun v3 wx => ∃ t3 aa, v3 = .pointer (some ⟨t3, 0, none⟩) ∧ Sd (wx.heap[t3]? = some (.cells #[.string one, .string ⟨#[]⟩, .slice none 0 0, .slice aa 0 0, .string ⟨#[]⟩, .slice none 0 0, .slice none 0 0, .slice none 0 0] 49 (0, 0))) ∧ Sd (w.heap.size + 1 ≤ t3) ∧ Sd (wx.heap[w.heap.size]? = some (.cells #[.string ⟨#[]⟩, .string ⟨#[]⟩, .slice none 0 0, .slice none 0 0, .string ⟨#[]⟩, .slice none 0 0, .slice none 0 0, .slice none 0 0] 49 (0, 0))) ∧ Sd (Ext w wx))
  case first =>
    go_region_held3 (fun w' => w'.cell? ⟨g, 0, none⟩ = some (.string one) ∧ w'.cell? ⟨g, 1, none⟩ = some (.slice A 0 c)) (go_keep) (first | (go_at_call 54; refine (copied_empty _ _ _).mono ?_; rintro e w' ⟨rfl, rfl⟩))
    all_goals
      go_wp2_with fail
      go_meet
      first
        | exact ⟨_, _, rfl, ⟨box_at (by simp)⟩, ⟨by omega⟩, ⟨box_keep (box_keep (box_alloc w _) _) _⟩, ⟨((((Ext.refl w).alloc _).alloc _).alloc _).drewN 1⟩⟩
        | exact ⟨_, _, rfl, ⟨box_keep (box_at (by simp)) _⟩, ⟨by omega⟩, ⟨box_keep (box_keep (box_alloc w _) _) _⟩, ⟨((((Ext.refl w).alloc _).alloc _).alloc _).drewN 1⟩⟩
  case rest =>
  obtain ⟨t3, aa, rfl, HT, HL, HZ, HE⟩ := hcut
  clear e0 e1 kk1 kk2 kk3 kk4
  have hm := m264 k
  have f2 := box_cell (box_ext HG.out HE.out) 2
  go_upto_region 3 with (fail)
  go_cut [] from 21 to 27 (fun wx => ∃ P, Sd (P ≠ t3 ∧ w.heap.size < P) ∧ Sd (wx.heap[t3]? = some (.cells #[.string one, .string ⟨#[]⟩, .slice (some ⟨P, 0, none⟩) 0 0, .slice aa 0 0, .string ⟨#[]⟩, .slice none 0 0, .slice none 0 0, .slice none 0 0] 49 (0, 0))) ∧ Sd (wx.heap[w.heap.size]? = some (.cells #[.string ⟨#[]⟩, .string ⟨#[]⟩, .slice none 0 0, .slice none 0 0, .string ⟨#[]⟩, .slice none 0 0, .slice none 0 0, .slice none 0 0] 49 (0, 0))) ∧ Sd (Ext w wx))
  case first =>
    go_wp2_with (first
      | (go_at_call 253; refine (kw_264 _ _).mono ?_; rintro e w' ⟨rfl, rfl⟩)
      | (go_at_call 54; refine (copied_empty _ _ _).mono ?_; rintro e w4 ⟨rfl, hw4⟩; have he : Ext w' w4 := hw4 ▸ (Ext.refl w').alloc _; have HPC : Sd (w'.heap.size ≠ t3 ∧ w.heap.size < w'.heap.size) := ⟨(by have h1 := box_lt HT.out; have h2 := HL.out; omega)⟩; have HT1 := Sd.mk (box_ext HT.out he); have HZ1 := Sd.mk (box_ext HZ.out he); have HE1 := Sd.mk (HE.out.trans he); have q1 := box_cell HT1.out; have q2 := box_frozen HT1.out; have f3 := box_cell (box_ext HG.out HE1.out) 2; clear he hw4)
      | fail)
    go_meet
    have hl := HL.out
    have hne : w.heap.size ≠ t3 := by omega
    exact ⟨_, HPC, ⟨box_set HT1.out 2 _⟩, ⟨by rw [box_other (h := rfl) _ hne]; exact HZ1.out⟩, ⟨HE1.out.setCell (show w.heap.size ≤ t3 by omega) _⟩⟩
  case rest =>
  obtain ⟨P, HP, HT, HZ, HE⟩ := hcut
  clear f2
  have f2 := box_cell (box_ext HG.out HE.out) 2
  go_upto_region 4 with (fail)
  go_cut [] from 28 to 41 (fun wx => Sd (wx.heap[t3]? = some (.cells #[.string one, .string sFalse, .slice (some ⟨P, 0, none⟩) 0 0, .slice aa 0 0, .string ⟨#[]⟩, .slice none 0 0, .slice none 0 0, .slice none 0 0] 49 (0, 0))) ∧ Sd (wx.heap[w.heap.size]? = some (.cells #[.string ⟨#[]⟩, .string ⟨#[]⟩, .slice none 0 0, .slice none 0 0, .string ⟨#[]⟩, .slice none 0 0, .slice none 0 0, .slice none 0 0] 49 (0, 0))) ∧ Sd (Ext w wx))
  case first =>
    have q1 := box_cell HT.out
    have q2 := box_frozen HT.out
    go_wp2_with (first
      | (go_at_call 55; refine (kindOf_264 _ _).mono ?_; rintro e w4 ⟨rfl, rfl⟩)
      | fail)
    go_meet
    have hl := HL.out
    have hne : w.heap.size ≠ t3 := by omega
    have b1 := box_set HT.out 1 (.string sFalse)
    have b2 := box_set b1 4 (.string ⟨#[]⟩)
    have b3 := box_set b2 5 (.slice none 0 0)
    refine ⟨⟨box_set b3 6 _⟩, ⟨?_⟩, ⟨(((HE.out.setCell (show w.heap.size ≤ t3 by omega) _).setCell (show w.heap.size ≤ t3 by omega) _).setCell (show w.heap.size ≤ t3 by omega) _).setCell (show w.heap.size ≤ t3 by omega) _⟩⟩
    rw [box_other (h := rfl) _ hne, box_other (h := rfl) _ hne, box_other (h := rfl) _ hne, box_other (h := rfl) _ hne]; exact HZ.out
  case rest =>
  obtain ⟨HT, HZ, HE⟩ := hcut
  clear f2
  have f4 := box_cell (box_ext HG.out HE.out) 3
  have q7 := box_cell HT.out 7
  go_wp2_with fail
  refine wp_loop_rounds 1 ?_
  rw [rounds_succ]
  go_wp2_with (first
    | (go_at_call 56; refine (sort_none _ _ _ _).mono ?_; rintro e w' ⟨rfl, rfl⟩)
    | (refine wpList_load_row rfl 49 _ rfl t3 rfl 49 #[.string one, .string sFalse, .slice (some ⟨P, 0, none⟩) 0 0, .slice aa 0 0, .string ⟨#[]⟩, .slice none 0 0, .slice none 0 0, .slice none 0 0] (0, 0) _ HT.out Tryz.underlying49 rfl s49' ?_)
    | (refine wpList_store_row rfl 49 _ _ rfl _ #[.string one, .string sFalse, .slice (some ⟨P, 0, none⟩) 0 0, .slice aa 0 0, .string ⟨#[]⟩, .slice none 0 0, .slice none 0 0, .slice none 0 0] #[.string ⟨#[]⟩, .string ⟨#[]⟩, .slice none 0 0, .slice none 0 0, .string ⟨#[]⟩, .slice none 0 0, .slice none 0 0, .slice none 0 0] rfl rfl 49 HZ.out rfl s49' (by simp [Value.oneCell']) ?_; intro wn hn1 hn2; have HF := Sd.mk hn1; have HX : Sd (Ext w wn) := ⟨Ext.over HE.out hn2 (Nat.le_refl _)⟩; have HY := Sd.mk hn2; clear hn1 hn2)
    | fail)
  (try simp only [Exit.inBlock, Exit.then])
  refine bodyPost_ret (v := .agg #[.string one, .string sFalse, .slice (some ⟨P, 0, none⟩) 0 0, .slice aa 0 0, .string ⟨#[]⟩, .slice none 0 0, .slice none 0 0, .slice none 0 0]) ?_ rfl ?_
  · exact results_cell_row rfl _ _ w.heap.size 49 _ (0, 0) _ rfl HF.out Tryz.underlying49 rfl s49'
  · exact ⟨⟨_, rfl, P, 0, aa, 0, rfl⟩, HX.out⟩

end Go.Proofs.YtgkjdgolffnagaaGreatDoor
