/- Parts of the proof of the statement that this folder hands in: lemmas and contracts (Xc). -/
import Derived.Test.YtgkjdgolffnagaaGreatDoorXb
import Derived.Test.YtgkjdgolffnagaaGreatDoorKe
set_option linter.unusedSimpArgs false
set_option linter.unusedVariables false
namespace Go.Proofs.YtgkjdgolffnagaaGreatDoor
open Go.RowKit

theorem kw_184 (v : Value) (w : World) : Calls Tryz.prog 240 #[v] w fun e w' => e = .returned (.slice none 0 0) ∧ w' = w := by
  go_enter Tryz.func240, Tryz.ntmps240
  go_wp2_with fail
  go_ret
  exact ⟨rfl, rfl⟩
theorem kw_264 (v : Value) (w : World) : Calls Tryz.prog 253 #[v] w fun e w' => e = .returned (.slice none 0 0) ∧ w' = w := by
  go_enter Tryz.func253, Tryz.ntmps253
  go_wp2_with fail
  go_ret
  exact ⟨rfl, rfl⟩
theorem kw_212 (v : Value) (w : World) : Calls Tryz.prog 249 #[v] w fun e w' => e = .returned (.slice (some ⟨w.heap.size, 0, none⟩) 1 1) ∧ w' = w.alloc (.cells #[.string suniq] 9) := by
  unfold suniq
  go_enter Tryz.func249, Tryz.ntmps249
  go_wp2_with fail
  go_ret
  exact ⟨rfl, rfl⟩
theorem box_lt {w : World} {b : Nat} {x} (h : w.heap[b]? = some x) : b < w.heap.size := (Array.getElem?_eq_some_iff.1 h).1
/-- What the draft tells of the one error, and of the schema that is false. -/
def EofU (j i : Int) (cs : Array Value) (b : Nat) (w : World) : Prop := ∃ P cp A' ca N cn, cs = je sUniq (some ⟨P, 0, none⟩) 1 cp A' ca (some ⟨N, 0, none⟩) 2 cn none 0 0 ∧ b ≤ P ∧ b ≤ N ∧ w.cell? ⟨P, 0, none⟩ = some (.string suniq) ∧ w.cell? ⟨N, 0, none⟩ = some (.int .i64 j) ∧ w.cell? ⟨N, 1, none⟩ = some (.int .i64 i)
def EofF (cs : Array Value) (b : Nat) (w : World) : Prop := ∃ P cp A' ca, cs = je sFalse (some ⟨P, 0, none⟩) 0 cp A' ca none 0 0 none 0 0
theorem EofU.keep {j i : Int} : ∀ (cs : Array Value) (b b' : Nat) (w w' : World), b' ≤ b → EofU j i cs b w → (∀ p n v, b ≤ p → w.cell? ⟨p, n, none⟩ = some v → w'.cell? ⟨p, n, none⟩ = some v) → EofU j i cs b' w' := fun cs b b' w w' hb h k =>
  let ⟨P, cp, A', ca, N, cn, h1, h2, h3, h4, h5, h6⟩ := h
  ⟨P, cp, A', ca, N, cn, h1, Nat.le_trans hb h2, Nat.le_trans hb h3, k _ _ _ h2 h4, k _ _ _ h3 h5, k _ _ _ h3 h6⟩
theorem EofF.keep : ∀ (cs : Array Value) (b b' : Nat) (w w' : World), b' ≤ b → EofF cs b w → (∀ p n v, b ≤ p → w.cell? ⟨p, n, none⟩ = some v → w'.cell? ⟨p, n, none⟩ = some v) → EofF cs b' w' := fun cs b b' w w' hb h k => h
theorem s49' : (Tryz.prog.info? 49).map (·.size) = some 8 := by kernel_rfl

set_option maxHeartbeats 0 in
set_option maxRecDepth 100000 in
theorem errorOf_uniq (g : Nat) (k : Nat) (j i : Int) (A : Option Addr) (c : Nat) (w : World) (hg : w.heap[g]? = some (.cells #[.string one, .slice A 0 c, .iface 212 (.pointer (some ⟨k, 0, none⟩)), .slice none 0 0] 124 (0, 0))) (hk : w.heap[k]? = some (.cells #[.int .i64 j, .int .i64 i] 215 (0, 0))) :
    Calls Tryz.prog 29 #[.pointer (some ⟨g, 0, none⟩)] w fun e w' => (∃ cs, e = .returned (.agg cs) ∧ EofU j i cs w.heap.size w') ∧ Ext w w' := by
  have HG := Sd.mk hg
  clear hg
  have HK := Sd.mk hk
  clear hk
  go_enter Tryz.func29, Tryz.ntmps29
  go_upto_region 1 with (fail)
  have e0 : (w.alloc (.cells #[.string ⟨#[]⟩, .string ⟨#[]⟩, .slice none 0 0, .slice none 0 0, .string ⟨#[]⟩, .slice none 0 0, .slice none 0 0, .slice none 0 0] 49)).drew.cell? ⟨g, 0, none⟩ = some (.string one) := box_cell (box_keep HG.out _) 0
  have e1 : (w.alloc (.cells #[.string ⟨#[]⟩, .string ⟨#[]⟩, .slice none 0 0, .slice none 0 0, .string ⟨#[]⟩, .slice none 0 0, .slice none 0 0, .slice none 0 0] 49)).drew.cell? ⟨g, 1, none⟩ = some (.slice A 0 c) := box_cell (box_keep HG.out _) 1
  have kk1 := fun o => (show ((w.alloc (.cells #[.string ⟨#[]⟩, .string ⟨#[]⟩, .slice none 0 0, .slice none 0 0, .string ⟨#[]⟩, .slice none 0 0, .slice none 0 0, .slice none 0 0] 49)).alloc o).drew.cell? ⟨g, 0, none⟩ = some (.string one) from (((Ext.refl w).alloc _).alloc o).cell (box_cell HG.out 0))
  have kk2 := fun o => (show ((w.alloc (.cells #[.string ⟨#[]⟩, .string ⟨#[]⟩, .slice none 0 0, .slice none 0 0, .string ⟨#[]⟩, .slice none 0 0, .slice none 0 0, .slice none 0 0] 49)).alloc o).drew.cell? ⟨g, 1, none⟩ = some (.slice A 0 c) from (((Ext.refl w).alloc _).alloc o).cell (box_cell HG.out 1))
  have kk3 := fun o o' => (show (((w.alloc (.cells #[.string ⟨#[]⟩, .string ⟨#[]⟩, .slice none 0 0, .slice none 0 0, .string ⟨#[]⟩, .slice none 0 0, .slice none 0 0, .slice none 0 0] 49)).alloc o).alloc o').drew.cell? ⟨g, 0, none⟩ = some (.string one) from ((((Ext.refl w).alloc _).alloc o).alloc o').cell (box_cell HG.out 0))
  have kk4 := fun o o' => (show (((w.alloc (.cells #[.string ⟨#[]⟩, .string ⟨#[]⟩, .slice none 0 0, .slice none 0 0, .string ⟨#[]⟩, .slice none 0 0, .slice none 0 0, .slice none 0 0] 49)).alloc o).alloc o').drew.cell? ⟨g, 1, none⟩ = some (.slice A 0 c) from ((((Ext.refl w).alloc _).alloc o).alloc o').cell (box_cell HG.out 1))
  go_cut [3] from 6 to 15 (fun v3 wx => ∃ t3 aa, v3 = .pointer (some ⟨t3, 0, none⟩) ∧ Sd (wx.heap[t3]? = some (.cells #[.string one, .string ⟨#[]⟩, .slice none 0 0, .slice aa 0 0, .string ⟨#[]⟩, .slice none 0 0, .slice none 0 0, .slice none 0 0] 49 (0, 0))) ∧ Sd (w.heap.size + 1 ≤ t3) ∧ Sd (wx.heap[w.heap.size]? = some (.cells #[.string ⟨#[]⟩, .string ⟨#[]⟩, .slice none 0 0, .slice none 0 0, .string ⟨#[]⟩, .slice none 0 0, .slice none 0 0, .slice none 0 0] 49 (0, 0))) ∧ Sd (Ext w wx))
  case first =>
    go_region_held3 (fun w' => w'.cell? ⟨g, 0, none⟩ = some (.string one) ∧ w'.cell? ⟨g, 1, none⟩ = some (.slice A 0 c)) (go_keep) (first | (go_at_call 54; refine (copied_empty _ _ _).mono ?_; rintro e w' ⟨rfl, rfl⟩))
    all_goals
      go_wp2_with fail
      go_meet
      first
        | exact ⟨_, _, rfl, ⟨box_at (by simp)⟩, ⟨by omega⟩, ⟨box_keep (box_keep (box_alloc w _) _) _⟩, ⟨((((Ext.refl w).alloc _).alloc _).alloc _).drewN 1⟩⟩
        | exact ⟨_, _, rfl, ⟨box_keep (box_at (by simp)) _⟩, ⟨by omega⟩, ⟨box_keep (box_keep (box_alloc w _) _) _⟩, ⟨((((Ext.refl w).alloc _).alloc _).alloc _).drewN 1⟩⟩
  case rest =>
  obtain ⟨t3, aa, rfl, HT, HL, HZ, HE⟩ := hcut
  clear e0 e1 kk1 kk2 kk3 kk4
  have hm := m212 k
  have pq : ∀ {P : Nat}, (wc.alloc (.cells #[.string suniq] 9)).heap.size ≤ P → P ≠ t3 ∧ w.heap.size < P := by
    intro P hP
    have h1 := box_lt HT.out
    have h2 := HL.out
    simp at hP
    omega
  have f2 := box_cell (box_ext HG.out HE.out) 2
  go_upto_region 3 with (fail)
  go_cut [] from 21 to 27 (fun wx => ∃ P cp, Sd (wx.cell? ⟨P, 0, none⟩ = some (.string suniq) ∧ P ≠ t3 ∧ w.heap.size < P) ∧ Sd (wx.heap[t3]? = some (.cells #[.string one, .string ⟨#[]⟩, .slice (some ⟨P, 0, none⟩) 1 cp, .slice aa 0 0, .string ⟨#[]⟩, .slice none 0 0, .slice none 0 0, .slice none 0 0] 49 (0, 0))) ∧ Sd (wx.heap[w.heap.size]? = some (.cells #[.string ⟨#[]⟩, .string ⟨#[]⟩, .slice none 0 0, .slice none 0 0, .string ⟨#[]⟩, .slice none 0 0, .slice none 0 0, .slice none 0 0] 49 (0, 0))) ∧ Sd (Ext w wx))
  case first =>
    go_wp2_with (first
      | (go_at_call 249; refine (kw_212 _ _).mono ?_; rintro e w' ⟨rfl, rfl⟩)
      | (go_at_call 54; refine (copied_one _ _ suniq _ (box_cell (box_alloc _ _) 0)).mono ?_; rintro e w4 ⟨⟨P, cp, rfl, hPb, hP⟩, he⟩; have hes := ((Ext.refl wc).alloc (.cells #[.string suniq] 9)).trans he; have HPC : Sd (w4.cell? ⟨P, 0, none⟩ = some (.string suniq) ∧ P ≠ t3 ∧ w.heap.size < P) := ⟨hP, pq hPb⟩; have HT1 := Sd.mk (box_ext HT.out hes); have HZ1 := Sd.mk (box_ext HZ.out hes); have HE1 := Sd.mk (HE.out.trans hes); have q1 := box_cell HT1.out; have q2 := box_frozen HT1.out; have f3 := box_cell (box_ext HG.out HE1.out) 2; clear he hes hP hPb)
      | fail)
    go_meet
    have hl := HL.out
    have hne : w.heap.size ≠ t3 := by omega
    refine ⟨_, _, ⟨?_⟩, ⟨box_set HT1.out 2 _⟩, ⟨by rw [box_other (h := rfl) _ hne]; exact HZ1.out⟩, ⟨HE1.out.setCell (show w.heap.size ≤ t3 by omega) _⟩⟩
    · exact ⟨by rw [set_cell_other _ HPC.out.2.1]; exact HPC.out.1, HPC.out.2⟩
  case rest =>
  obtain ⟨P, cp, HP, HT, HZ, HE⟩ := hcut
  clear f2
  have f2 := box_cell (box_ext HG.out HE.out) 2
  have nq : ∀ {P : Nat}, wc.heap.size ≤ P → P ≠ t3 ∧ w.heap.size < P := by
    intro P hP
    have h1 := box_lt HT.out
    have h2 := HL.out
    omega
  go_upto_region 4 with (fail)
  go_cut [] from 28 to 41 (fun wx => ∃ N, Sd (wx.cell? ⟨N, 0, none⟩ = some (.int .i64 j) ∧ wx.cell? ⟨N, 1, none⟩ = some (.int .i64 i) ∧ N ≠ t3 ∧ w.heap.size < N) ∧ Sd (wx.cell? ⟨P, 0, none⟩ = some (.string suniq) ∧ P ≠ t3 ∧ w.heap.size < P) ∧ Sd (wx.heap[t3]? = some (.cells #[.string one, .string sUniq, .slice (some ⟨P, 0, none⟩) 1 cp, .slice aa 0 0, .string ⟨#[]⟩, .slice none 0 0, .slice (some ⟨N, 0, none⟩) 2 2, .slice none 0 0] 49 (0, 0))) ∧ Sd (wx.heap[w.heap.size]? = some (.cells #[.string ⟨#[]⟩, .string ⟨#[]⟩, .slice none 0 0, .slice none 0 0, .string ⟨#[]⟩, .slice none 0 0, .slice none 0 0, .slice none 0 0] 49 (0, 0))) ∧ Sd (Ext w wx))
  case first =>
    go_wp2_with (first
      | (go_at_call 55; refine (kindOf_212 _ j i _ (box_ext HK.out HE.out)).mono ?_; rintro e w4 ⟨⟨N, rfl, hNb, hN0, hN1⟩, he⟩; have HX1 := Sd.mk he; have HNC : Sd (w4.cell? ⟨N, 0, none⟩ = some (.int .i64 j) ∧ w4.cell? ⟨N, 1, none⟩ = some (.int .i64 i) ∧ N ≠ t3 ∧ w.heap.size < N) := ⟨hN0, hN1, nq hNb⟩; have HT1 := Sd.mk (box_ext HT.out he); have HZ1 := Sd.mk (box_ext HZ.out he); have HE1 := Sd.mk (HE.out.trans he); have q1 := box_cell HT1.out; have q2 := box_frozen HT1.out; have f3 := box_cell (box_ext HG.out HE1.out) 2; clear he hN0 hN1 hNb)
      | fail)
    go_meet
    have hl := HL.out
    have hne : w.heap.size ≠ t3 := by omega
    have b1 := box_set HT1.out 1 (.string sUniq)
    have b2 := box_set b1 4 (.string ⟨#[]⟩)
    have b3 := box_set b2 5 (.slice none 0 0)
    refine ⟨_, ⟨?_⟩, ⟨?_⟩, ⟨box_set b3 6 _⟩, ⟨?_⟩, ⟨(((HE1.out.setCell (show w.heap.size ≤ t3 by omega) _).setCell (show w.heap.size ≤ t3 by omega) _).setCell (show w.heap.size ≤ t3 by omega) _).setCell (show w.heap.size ≤ t3 by omega) _⟩⟩
    · refine ⟨?_, ?_, HNC.out.2.2⟩ <;> rw [set_cell_other _ HNC.out.2.2.1, set_cell_other _ HNC.out.2.2.1, set_cell_other _ HNC.out.2.2.1, set_cell_other _ HNC.out.2.2.1]
      · exact HNC.out.1
      · exact HNC.out.2.1
    · exact ⟨by rw [set_cell_other _ HP.out.2.1, set_cell_other _ HP.out.2.1, set_cell_other _ HP.out.2.1, set_cell_other _ HP.out.2.1]; exact HX1.out.cell HP.out.1, HP.out.2⟩
    · rw [box_other (h := rfl) _ hne, box_other (h := rfl) _ hne, box_other (h := rfl) _ hne, box_other (h := rfl) _ hne]; exact HZ1.out
  case rest =>
  obtain ⟨N, HN, HP, HT, HZ, HE⟩ := hcut
  clear f2
  have f4 := box_cell (box_ext HG.out HE.out) 3
  have q7 := box_cell HT.out 7
  go_wp2_with fail
  refine wp_loop_rounds 1 ?_
  rw [rounds_succ]
  go_wp2_with (first
    | (go_at_call 56; refine (sort_none _ _ _ _).mono ?_; rintro e w' ⟨rfl, rfl⟩)
    | (refine wpList_load_row rfl 49 _ rfl t3 rfl 49 #[.string one, .string sUniq, .slice (some ⟨P, 0, none⟩) 1 cp, .slice aa 0 0, .string ⟨#[]⟩, .slice none 0 0, .slice (some ⟨N, 0, none⟩) 2 2, .slice none 0 0] (0, 0) _ HT.out Tryz.underlying49 rfl s49' ?_)
    | (refine wpList_store_row rfl 49 _ _ rfl _ #[.string one, .string sUniq, .slice (some ⟨P, 0, none⟩) 1 cp, .slice aa 0 0, .string ⟨#[]⟩, .slice none 0 0, .slice (some ⟨N, 0, none⟩) 2 2, .slice none 0 0] #[.string ⟨#[]⟩, .string ⟨#[]⟩, .slice none 0 0, .slice none 0 0, .string ⟨#[]⟩, .slice none 0 0, .slice none 0 0, .slice none 0 0] rfl rfl 49 HZ.out rfl s49' (by simp [Value.oneCell']) ?_; intro wn hn1 hn2; have HF := Sd.mk hn1; have HX : Sd (Ext w wn) := ⟨Ext.over HE.out hn2 (Nat.le_refl _)⟩; have HY := Sd.mk hn2; clear hn1 hn2)
    | fail)
  (try simp only [Exit.inBlock, Exit.then])
  refine bodyPost_ret (v := .agg #[.string one, .string sUniq, .slice (some ⟨P, 0, none⟩) 1 cp, .slice aa 0 0, .string ⟨#[]⟩, .slice none 0 0, .slice (some ⟨N, 0, none⟩) 2 2, .slice none 0 0]) ?_ rfl ?_
  · exact results_cell_row rfl _ _ w.heap.size 49 _ (0, 0) _ rfl HF.out Tryz.underlying49 rfl s49'
  · have hy : ∀ {b : Nat} {i : Nat} {v : Value}, w'.cell? ⟨b, i, none⟩ = some v → w.heap.size < b → wn.cell? ⟨b, i, none⟩ = some v := fun h hb => (HY.out.cell_far ⟨_, _, none⟩ (World.block_lt_of_cell? _ _ h) (by simp; omega)).trans h
    exact ⟨⟨_, rfl, P, cp, aa, 0, N, 2, rfl, Nat.le_of_lt HP.out.2.2, Nat.le_of_lt HN.out.2.2.2, hy HP.out.1 HP.out.2.2, hy HN.out.1 HN.out.2.2.2, hy HN.out.2.1 HN.out.2.2.2⟩, HX.out⟩

end Go.Proofs.YtgkjdgolffnagaaGreatDoor
