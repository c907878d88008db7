/- Parts of the proof of the statement that this folder hands in: lemmas and contracts (Xe). -/
import Derived.Test.YtgkjdgolffnagaaGreatDoorXd
set_option linter.unusedSimpArgs false
set_option linter.unusedVariables false
namespace Go.Proofs.YtgkjdgolffnagaaGreatDoor
open Go.RowKit

theorem Ext.over' {a w w' : World} {v : Value} (h : Ext a w) (g : w.grownBy w' v.ownBlock) (hv : v.ownBlock = none := by rfl) : Ext a w' :=
  ⟨g.os.trans h.os, g.tape.trans h.tape, g.output.trans h.output, Nat.le_trans h.size g.size, fun k hk => by rw [g.block k (Nat.lt_of_lt_of_le hk h.size) (by rw [hv]; simp)]; exact h.block k hk⟩
theorem info49 : (Tryz.prog.info? 49).map (fun i => (i.zero, i.size, i.bytes)) = some (some (.agg #[.string ⟨#[]⟩, .string ⟨#[]⟩, .slice none 0 0, .slice none 0 0, .string ⟨#[]⟩, .slice none 0 0, .slice none 0 0, .slice none 0 0]), 8, 168) := by kernel_rfl
theorem row_new (w : World) (cs : Array Value) (t : TypeId) (l : List Value) (h : cs.toList = l := by rfl) : ∀ j u, l[j]? = some u → (w.alloc (.cells cs t)).cell? ((⟨w.heap.size, 0, none⟩ : Addr).add j) = some u := by
  intro j u hu
  have ha : (⟨w.heap.size, 0, none⟩ : Addr).add j = ⟨w.heap.size, j, none⟩ := by simp [Addr.add]; omega
  rw [ha, box_cell (box_alloc w _) j, ← hu, ← h]
  simp

set_option maxHeartbeats 0 in
set_option maxRecDepth 100000 in
theorem errorOf_top (Q : Array Value → Nat → World → Prop) (hQ : ∀ cs b b' w w', b' ≤ b → Q cs b w → (∀ p n v, b ≤ p → w.cell? ⟨p, n, none⟩ = some v → w'.cell? ⟨p, n, none⟩ = some v) → Q cs b' w')
    (g k h kid : Nat) (A : Option Addr) (c ch : Nat) (w : World) (hg : w.heap[g]? = some (.cells #[.string one, .slice A 0 c, .iface 184 (.pointer (some ⟨k, 0, none⟩)), .slice (some ⟨h, 0, none⟩) 1 ch] 124 (0, 0))) (hh : w.cell? ⟨h, 0, none⟩ = some (.pointer (some ⟨kid, 0, none⟩)))
    (hkid : ∀ w', Ext w w' → Calls Tryz.prog 29 #[.pointer (some ⟨kid, 0, none⟩)] w' fun e w'' => (∃ kd P lp cp A' ca N ln cn, e = .returned (.agg (je kd P lp cp A' ca N ln cn none 0 0)) ∧ Q (je kd P lp cp A' ca N ln cn none 0 0) w'.heap.size w'') ∧ Ext w' w'') :
    Calls Tryz.prog 29 #[.pointer (some ⟨g, 0, none⟩)] w fun e w' => (∃ P A' G ck kd P2 lp cp A2 ca N2 ln cn, e = .returned (.agg (je sSchema (some ⟨P, 0, none⟩) 0 0 A' 0 none 0 0 (some ⟨G, 0, none⟩) 1 ck)) ∧ Q (je kd P2 lp cp A2 ca N2 ln cn none 0 0) w.heap.size w' ∧ w.heap.size ≤ G ∧ ∀ i, i < 8 → w'.cell? ⟨G, i, none⟩ = (je kd P2 lp cp A2 ca N2 ln cn none 0 0)[i]?) ∧ Ext w w' := by
  have HH := Sd.mk hh
  have HK := Sd.mk hkid
  clear hh hkid
  have HG := Sd.mk hg
  clear hg
  go_enter Tryz.func29, Tryz.ntmps29
  go_upto_region 1 with (fail)
  have e0 : (w.alloc (.cells #[.string ⟨#[]⟩, .string ⟨#[]⟩, .slice none 0 0, .slice none 0 0, .string ⟨#[]⟩, .slice none 0 0, .slice none 0 0, .slice none 0 0] 49)).drew.cell? ⟨g, 0, none⟩ = some (.string one) := box_cell (box_keep HG.out _) 0
  have e1 : (w.alloc (.cells #[.string ⟨#[]⟩, .string ⟨#[]⟩, .slice none 0 0, .slice none 0 0, .string ⟨#[]⟩, .slice none 0 0, .slice none 0 0, .slice none 0 0] 49)).drew.cell? ⟨g, 1, none⟩ = some (.slice A 0 c) := box_cell (box_keep HG.out _) 1
  have kk1 := fun o => (show ((w.alloc (.cells #[.string ⟨#[]⟩, .string ⟨#[]⟩, .slice none 0 0, .slice none 0 0, .string ⟨#[]⟩, .slice none 0 0, .slice none 0 0, .slice none 0 0] 49)).alloc o).drew.cell? ⟨g, 0, none⟩ = some (.string one) from (((Ext.refl w).alloc _).alloc o).cell (box_cell HG.out 0))
  have kk2 := fun o => (show ((w.alloc (.cells #[.string ⟨#[]⟩, .string ⟨#[]⟩, .slice none 0 0, .slice none 0 0, .string ⟨#[]⟩, .slice none 0 0, .slice none 0 0, .slice none 0 0] 49)).alloc o).drew.cell? ⟨g, 1, none⟩ = some (.slice A 0 c) from (((Ext.refl w).alloc _).alloc o).cell (box_cell HG.out 1))
  have kk3 := fun o o' => (show (((w.alloc (.cells #[.string ⟨#[]⟩, .string ⟨#[]⟩, .slice none 0 0, .slice none 0 0, .string ⟨#[]⟩, .slice none 0 0, .slice none 0 0, .slice none 0 0] 49)).alloc o).alloc o').drew.cell? ⟨g, 0, none⟩ = some (.string one) from ((((Ext.refl w).alloc _).alloc o).alloc o').cell (box_cell HG.out 0))
  have kk4 := fun o o' => (show (((w.alloc (.cells #[.string ⟨#[]⟩, .string ⟨#[]⟩, .slice none 0 0, .slice none 0 0, .string ⟨#[]⟩, .slice none 0 0, .slice none 0 0, .slice none 0 0] 49)).alloc o).alloc o').drew.cell? ⟨g, 1, none⟩ = some (.slice A 0 c) from ((((Ext.refl w).alloc _).alloc o).alloc o').cell (box_cell HG.out 1))
  go_cut [3] from 6 to 15 (fun v3 wx => ∃ t3 aa, v3 = .pointer (some ⟨t3, 0, none⟩) ∧ Sd (wx.heap[t3]? = some (.cells #[.string one, .string ⟨#[]⟩, .slice none 0 0, .slice aa 0 0, .string ⟨#[]⟩, .slice none 0 0, .slice none 0 0, .slice none 0 0] 49 (0, 0))) ∧ Sd (w.heap.size + 1 ≤ t3) ∧ Sd (wx.heap[w.heap.size]? = some (.cells #[.string ⟨#[]⟩, .string ⟨#[]⟩, .slice none 0 0, .slice none 0 0, .string ⟨#[]⟩, .slice none 0 0, .slice none 0 0, .slice none 0 0] 49 (0, 0))) ∧ Sd (Ext w wx))
  case first =>
    go_region_held3 (fun w' => w'.cell? ⟨g, 0, none⟩ = some (.string one) ∧ w'.cell? ⟨g, 1, none⟩ = some (.slice A 0 c)) (go_keep) (first | (go_at_call 54; refine (copied_empty _ _ _).mono ?_; rintro e w' ⟨rfl, rfl⟩))
    all_goals
      go_wp2_with fail
      go_meet
      first
        | exact ⟨_, _, rfl, ⟨box_at (by simp)⟩, ⟨by omega⟩, ⟨box_keep (box_keep (box_alloc w _) _) _⟩, ⟨((((Ext.refl w).alloc _).alloc _).alloc _).drewN 1⟩⟩
        | exact ⟨_, _, rfl, ⟨box_keep (box_at (by simp)) _⟩, ⟨by omega⟩, ⟨box_keep (box_keep (box_alloc w _) _) _⟩, ⟨((((Ext.refl w).alloc _).alloc _).alloc _).drewN 1⟩⟩
  case rest =>
  obtain ⟨t3, aa, rfl, HT, HL, HZ, HE⟩ := hcut
  clear e0 e1 kk1 kk2 kk3 kk4
  have hm := m184 k
  have f2 := box_cell (box_ext HG.out HE.out) 2
  go_upto_region 3 with (fail)
  go_cut [] from 21 to 27 (fun wx => ∃ P, Sd (P ≠ t3 ∧ w.heap.size < P) ∧ Sd (wx.heap[t3]? = some (.cells #[.string one, .string ⟨#[]⟩, .slice (some ⟨P, 0, none⟩) 0 0, .slice aa 0 0, .string ⟨#[]⟩, .slice none 0 0, .slice none 0 0, .slice none 0 0] 49 (0, 0))) ∧ Sd (wx.heap[w.heap.size]? = some (.cells #[.string ⟨#[]⟩, .string ⟨#[]⟩, .slice none 0 0, .slice none 0 0, .string ⟨#[]⟩, .slice none 0 0, .slice none 0 0, .slice none 0 0] 49 (0, 0))) ∧ Sd (Ext w wx))
  case first =>
    go_wp2_with (first
      | (go_at_call 240; refine (kw_184 _ _).mono ?_; rintro e w' ⟨rfl, rfl⟩)
      | (go_at_call 54; refine (copied_empty _ _ _).mono ?_; rintro e w4 ⟨rfl, hw4⟩; have he : Ext w' w4 := hw4 ▸ (Ext.refl w').alloc _; have HPC : Sd (w'.heap.size ≠ t3 ∧ w.heap.size < w'.heap.size) := ⟨(by have h1 := box_lt HT.out; have h2 := HL.out; omega)⟩; have HT1 := Sd.mk (box_ext HT.out he); have HZ1 := Sd.mk (box_ext HZ.out he); have HE1 := Sd.mk (HE.out.trans he); have q1 := box_cell HT1.out; have q2 := box_frozen HT1.out; have f3 := box_cell (box_ext HG.out HE1.out) 2; clear he hw4)
      | fail)
    go_meet
    have hl := HL.out
    have hne : w.heap.size ≠ t3 := by omega
    exact ⟨_, HPC, ⟨box_set HT1.out 2 _⟩, ⟨by rw [box_other (h := rfl) _ hne]; exact HZ1.out⟩, ⟨HE1.out.setCell (show w.heap.size ≤ t3 by omega) _⟩⟩
  case rest =>
  obtain ⟨P, HP, HT, HZ, HE⟩ := hcut
  clear f2
  have f2 := box_cell (box_ext HG.out HE.out) 2
  go_upto_region 4 with (fail)
  go_cut [] from 28 to 41 (fun wx => Sd (wx.heap[t3]? = some (.cells #[.string one, .string sSchema, .slice (some ⟨P, 0, none⟩) 0 0, .slice aa 0 0, .string ⟨#[]⟩, .slice none 0 0, .slice none 0 0, .slice none 0 0] 49 (0, 0))) ∧ Sd (wx.heap[w.heap.size]? = some (.cells #[.string ⟨#[]⟩, .string ⟨#[]⟩, .slice none 0 0, .slice none 0 0, .string ⟨#[]⟩, .slice none 0 0, .slice none 0 0, .slice none 0 0] 49 (0, 0))) ∧ Sd (Ext w wx))
  case first =>
    have q1 := box_cell HT.out
    have q2 := box_frozen HT.out
    go_wp2_with (first
      | (go_at_call 55; refine (kindOf_184 _ _).mono ?_; rintro e w4 ⟨rfl, rfl⟩)
      | fail)
    go_meet
    have hl := HL.out
    have hne : w.heap.size ≠ t3 := by omega
    have b1 := box_set HT.out 1 (.string sSchema)
    have b2 := box_set b1 4 (.string ⟨#[]⟩)
    have b3 := box_set b2 5 (.slice none 0 0)
    refine ⟨⟨box_set b3 6 _⟩, ⟨?_⟩, ⟨(((HE.out.setCell (show w.heap.size ≤ t3 by omega) _).setCell (show w.heap.size ≤ t3 by omega) _).setCell (show w.heap.size ≤ t3 by omega) _).setCell (show w.heap.size ≤ t3 by omega) _⟩⟩
    rw [box_other (h := rfl) _ hne, box_other (h := rfl) _ hne, box_other (h := rfl) _ hne, box_other (h := rfl) _ hne]; exact HZ.out
  case rest =>
  obtain ⟨HT, HZ, HE⟩ := hcut
  clear f2
  have f4 := box_cell (box_ext HG.out HE.out) 3
  have q7 := box_cell HT.out 7
  have f5 := (HE.out.cell HH.out)
  obtain ⟨i0, hi, hz0, hz1, hz2⟩ := info_parts info49
  go_wp2_with fail
  refine wp_loop_rounds 2 ?_
  rw [rounds_succ]
  go_upto_region 8 with (fail)
  have e7 : wc.drew.cell? ⟨t3, 7, none⟩ = some (.slice none 0 0) := q7
  go_region_law (first | (go_simp; go_at_call 29; refine (HK.out _ ((HE.out).drewN 1)).mono ?_; rintro e w5 ⟨⟨kd, P2, lp, cp, A2, ca, N2, ln, cn, rfl, hq⟩, he⟩; have e7 := he.cell e7; have e8 := (fun o => ((Ext.refl _).alloc o).cell e7); have HQ5 : Sd (Q #[.string one, .string kd, .slice P2 lp cp, .slice A2 0 ca, .string ⟨#[]⟩, .slice none 0 0, .slice N2 ln cn, .slice none 0 0] wc.heap.size w5) := ⟨hq⟩; have HE5 : Sd (Ext wc w5) := ⟨((Ext.refl wc).drewN 1).trans he⟩; clear hq he) | (refine step_append_lies _ rfl (.tmp 52) (.tmp 55) 47 rfl w.heap.size 49 i0 _ 8 _ Tryz.underlying47 hi hz0 hz1 hz2 rfl (by decide) (.slice none 0 0) 0 [] rfl (World.ownsRow_nil _ _ _ _) ⟨w5.heap.size, 0, none⟩ 1 1 [.string one, .string kd, .slice P2 lp cp, .slice A2 0 ca, .string ⟨#[]⟩, .slice none 0 0, .slice N2 ln cn, .slice none 0 0] rfl rfl (row_new _ _ _ _) (by simp [Value.oneCell']) (by decide) (by simp [maxLen]) (by simp) (by have := HE.out.size; have := HE5.out.size; simp at this ⊢; omega) _ rfl ?_; intro hh cap w1 hown hgrow hat hlt1; have b1 : w1.heap[t3]? = some (.cells #[.string one, .string sSchema, .slice (some ⟨P, 0, none⟩) 0 0, .slice aa 0 0, .string ⟨#[]⟩, .slice none 0 0, .slice none 0 0, .slice none 0 0] 49 (0, 0)) := (hgrow.block t3 (by have := box_lt HT.out; have := HE5.out.size; simp at this ⊢; omega) (by simp [Value.ownBlock])).trans (box_keep (box_ext HT.out HE5.out) _); have q5 := box_cell b1 7; have q6 := box_frozen b1; have HO := Sd.mk hown; have HGR := Sd.mk hgrow; have HA := Sd.mk hat; have HLT := Sd.mk hlt1; have HB1 := Sd.mk b1; clear hown hgrow hat hlt1 b1))
  all_goals
    go_wp2_with fail
    rw [rounds_succ]
    have HEQ : Sd (hh = w5.heap.size + 1) := ⟨by simpa [Value.ownBlock] using HA.out⟩
    have HSZ : Sd (w.heap.size < t3 ∧ t3 < wc.heap.size ∧ wc.heap.size ≤ w5.heap.size ∧ w5.heap.size + 1 < w1.heap.size + 1 ∧ w.heap.size ≤ wc.heap.size) := ⟨by have h1 := HL.out; have h2 := box_lt HT.out; have h3 := HE5.out.size; have h4 := HGR.out.size; have h5 := HE.out.size; simp at h4; omega⟩
    have HT2 := Sd.mk (box_set HB1.out 7 (.slice (some ⟨hh, 0, none⟩) 1 cap))
    have HF1 : Sd (∀ p n v, wc.heap.size ≤ p → w5.cell? ⟨p, n, none⟩ = some v → (w1.setCell ⟨t3, 7, none⟩ (.slice (some ⟨hh, 0, none⟩) 1 cap)).cell? ⟨p, n, none⟩ = some v) := ⟨fun p n v hp h => by
      have hsz := HSZ.out
      rw [set_cell_other _ (by omega)]
      have hlt := World.block_lt_of_cell? _ _ h
      have h6 := ((Ext.refl w5).alloc (.cells #[.string one, .string kd, .slice P2 lp cp, .slice A2 0 ca, .string ⟨#[]⟩, .slice none 0 0, .slice N2 ln cn, .slice none 0 0] 49)).cell h
      exact (HGR.out.cell_far ⟨_, _, none⟩ (World.block_lt_of_cell? _ _ h6) (by simp [Value.ownBlock])).trans h6⟩
    have HF2 : Sd (∀ i, i < 8 → (w1.setCell ⟨t3, 7, none⟩ (.slice (some ⟨hh, 0, none⟩) 1 cap)).cell? ⟨hh, i, none⟩ = (#[.string one, .string kd, .slice P2 lp cp, .slice A2 0 ca, .string ⟨#[]⟩, .slice none 0 0, .slice N2 ln cn, .slice none 0 0] : Array Value)[i]?) := ⟨fun i hi => by
      have hsz := HSZ.out
      have hhe := HEQ.out
      rw [set_cell_other _ (by omega)]
      obtain ⟨u, hu⟩ : ∃ u, ([.string one, .string kd, .slice P2 lp cp, .slice A2 0 ca, .string ⟨#[]⟩, .slice none 0 0, .slice N2 ln cn, .slice none 0 0] : List Value)[i]? = some u := ⟨_, List.getElem?_eq_getElem (by simpa using hi)⟩
      have h6 := HO.out.cells (g := hh) rfl i u hu
      have ha : (⟨hh, 0, none⟩ : Addr).add i = ⟨hh, i, none⟩ := by simp [Addr.add]; omega
      rw [ha] at h6
      rw [h6, ← hu]
      simp⟩
    have HZ2 : Sd ((w1.setCell ⟨t3, 7, none⟩ (.slice (some ⟨hh, 0, none⟩) 1 cap)).heap[w.heap.size]? = some (.cells #[.string ⟨#[]⟩, .string ⟨#[]⟩, .slice none 0 0, .slice none 0 0, .string ⟨#[]⟩, .slice none 0 0, .slice none 0 0, .slice none 0 0] 49 (0, 0))) := ⟨by
      have hsz := HSZ.out
      have hne : w.heap.size ≠ t3 := by omega
      rw [box_other (h := rfl) _ hne, HGR.out.block _ (by simp; omega) (by simp [Value.ownBlock])]
      exact box_keep (box_ext HZ.out HE5.out) _⟩
    have HE2 : Sd (Ext w (w1.setCell ⟨t3, 7, none⟩ (.slice (some ⟨hh, 0, none⟩) 1 cap))) := ⟨by
      have hsz := HSZ.out
      refine Ext.setCell ?_ (show w.heap.size ≤ t3 by omega) _
      exact Ext.over' ((HE.out.trans HE5.out).alloc _) HGR.out⟩
    go_wp2_with (first
      | (go_at_call 56; refine (sort_one _ _ _ _).mono ?_; rintro e w' ⟨rfl, rfl⟩)
      | (refine wpList_load_row rfl 49 _ rfl t3 rfl 49 #[.string one, .string sSchema, .slice (some ⟨P, 0, none⟩) 0 0, .slice aa 0 0, .string ⟨#[]⟩, .slice none 0 0, .slice none 0 0, .slice (some ⟨hh, 0, none⟩) 1 cap] (0, 0) _ HT2.out Tryz.underlying49 rfl s49' ?_)
      | (refine wpList_store_row rfl 49 _ _ rfl _ #[.string one, .string sSchema, .slice (some ⟨P, 0, none⟩) 0 0, .slice aa 0 0, .string ⟨#[]⟩, .slice none 0 0, .slice none 0 0, .slice (some ⟨hh, 0, none⟩) 1 cap] #[.string ⟨#[]⟩, .string ⟨#[]⟩, .slice none 0 0, .slice none 0 0, .string ⟨#[]⟩, .slice none 0 0, .slice none 0 0, .slice none 0 0] rfl rfl 49 HZ2.out rfl s49' (by simp [Value.oneCell']) ?_; intro wn hn1 hn2; have HF := Sd.mk hn1; have HX : Sd (Ext w wn) := ⟨Ext.over HE2.out hn2 (Nat.le_refl _)⟩; have HY := Sd.mk hn2; clear hn1 hn2)
      | fail)
    (try simp only [Exit.inBlock, Exit.then])
    refine bodyPost_ret (v := .agg #[.string one, .string sSchema, .slice (some ⟨P, 0, none⟩) 0 0, .slice aa 0 0, .string ⟨#[]⟩, .slice none 0 0, .slice none 0 0, .slice (some ⟨hh, 0, none⟩) 1 cap]) ?_ rfl ?_
    · exact results_cell_row rfl _ _ w.heap.size 49 _ (0, 0) _ rfl HF.out Tryz.underlying49 rfl s49'
    · refine ⟨⟨P, aa, hh, cap, kd, P2, lp, cp, A2, ca, N2, ln, cn, rfl, hQ _ wc.heap.size _ w5 _ HSZ.out.2.2.2.2 HQ5.out (fun p n v hp h => ?_), (by have hsz := HSZ.out; have hhe := HEQ.out; omega), fun i hi => ?_⟩, HX.out⟩
      · exact (HY.out.cell_far ⟨_, _, none⟩ (World.block_lt_of_cell? _ _ (HF1.out p n v hp h)) (by have hsz := HSZ.out; simp; omega)).trans (HF1.out p n v hp h)
      · rw [HY.out.cell_far ⟨hh, i, none⟩ (by have hsz := HSZ.out; have hhe := HEQ.out; have h6 := HLT.out; simp; omega) (by have hsz := HSZ.out; have hhe := HEQ.out; simp; omega)]
        exact HF2.out i hi

end Go.Proofs.YtgkjdgolffnagaaGreatDoor
