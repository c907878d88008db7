/- Parts of the proof of the statement that this folder hands in: lemmas and contracts (Dl). -/
import Derived.Test.YtcfgjmdfpnfkjaaGreatDoorDgMg
import Derived.Deep.RegionHeld3
import Derived.Deep.DrawnRows
set_option linter.unusedSimpArgs false
set_option linter.unusedVariables false
set_option linter.unusedSimpArgs false
namespace Go.Proofs.YtcfgjmdfpnfkjaaGreatDoor
open Go.RowKit Pf
attribute [local go_sem ↓] Go.wp_at_zero Go.wp_at_succ

theorem gvS {g : Nat} {k : Int} {r : ByteArray} {A : Option Addr} {n c : Nat} {W : World} (h : W.heap[g]? = some (.cells (gv k r A n c) 24 (0, 0))) : W.cell? ⟨g, 0, none⟩ = some (.int .i64 k) ∧ W.cell? ⟨g, 1, none⟩ = some (.string r) := by
  have f := box_cell h
  exact ⟨f 0, f 1⟩

set_option maxRecDepth 100000 in
set_option maxHeartbeats 80000000 in
theorem val_row (k : Int) (r : ByteArray) (l : List (ByteArray × GV)) (ih : ∀ j (hj : j < l.length), ValC (l[j]).2) (A : Option Addr) (c : Nat) (w0 w : World) (m : Nat) (hl : l.length ≤ 1048576) (hA : GV.All w0 A 0 l) (hf : ∀ i (h : i < l.length), GV.Fit (l[i]).2)
    (he0 : Ext w0 w) (hm0 : w0.heap.size ≤ m) (hm : MAt w m) (hk1 : 1 ≤ k) (hk9 : k ≤ 9) : Calls Tryz.prog 20 #[.pointer (some ⟨m, 0, none⟩), .agg (gv k r A l.length c)] w (ValR w m (.mk k r l)) := by
  obtain ⟨i0, hi, hz0, hz1, hz2⟩ := info_parts info82
  have HA := Sd.mk hA
  have HE0 := Sd.mk he0
  have HM := Sd.mk hm
  have IH := Sd.mk ih
  have HF := Sd.mk hf
  have d1 : decide (k < 0) = false := decide_eq_false (by omega)
  have d2 : decide (9 < k) = false := decide_eq_false (by omega)
  have hlt : Sd (m < w.heap.size) := ⟨hm.lt⟩
  clear hA he0 hm ih hf hk1 hk9
  go_enter Tryz.func20, Tryz.ntmps20
  go_upto_region 3 with (fail)
  have HB1 := Sd.mk (box_alloc w (.cells (gv k r A l.length c) 24))
  have HM1 := Sd.mk (HM.out.ext ((Ext.refl w).alloc (.cells (gv k r A l.length c) 24)))
  have HX1 := Sd.mk (HE0.out.alloc (.cells (gv k r A l.length c) 24))
  have HG1 : Sd (w.grownBy (w.alloc (.cells (gv k r A l.length c) 24)) (some m)) := ⟨grown_ext ((Ext.refl w).alloc _)⟩
  have hs1 : w.heap.size + 1 = (w.alloc (.cells (gv k r A l.length c) 24)).heap.size := by simp
  clear d1 d2 HM
  generalize w.alloc (.cells (gv k r A l.length c) 24) = W1 at *
  have f := box_cell HB1.out
  have HB1d : Sd (W1.drew.heap[w.heap.size]? = some (.cells (gv k r A l.length c) 24 (0, 0))) := ⟨HB1.out⟩
  go_region_held3 (fun W => W.cell? ⟨w.heap.size, 0, none⟩ = some (.int .i64 k) ∧ W.cell? ⟨w.heap.size, 1, none⟩ = some (.string r)) (first | with_reducible exact gvS HB1d.out | with_reducible exact gvS HB2c.out | with_reducible exact gvS (box_keep HB2c.out _)) (first | (go_at_call 31; refine (pos_c _ m (HM1.out.ext ((Ext.refl W1).drewN 1))).mono ?_; rintro e w2 ⟨q1, rfl, hm, hg⟩; have HM2 := Sd.mk hm; have HJ2 : Sd (VJ w0 W1 m w2) := ⟨VJ.after (W := W1.drew) ⟨HX1.out.drewN 1, HM1.out.ext ((Ext.refl W1).drewN 1), grown_ext ((Ext.refl W1).drewN 1)⟩ hm0 hm hg⟩; have HB2c := Sd.mk (HJ2.out.box HB1.out (by have := hlt.out; omega)); clear hm hg))
  all_goals
    clear f
    have HB2 := Sd.mk (HJ2.out.box HB1.out (by have := hlt.out; omega))
    have hs2 : w.heap.size + 1 ≤ w2.heap.size := by have := HJ2.out.2.2.size; omega
    have HB3 := Sd.mk (box_keep HB2.out (.cells (vv r (.slice none 0 0) k q1) 81))
    have HV3 := Sd.mk (box_alloc w2 (.cells (vv r (.slice none 0 0) k q1) 81))
    have HG3 : Sd (w.grownBy (w2.alloc (.cells (vv r (.slice none 0 0) k q1) 81)) (some m)) := ⟨(HG1.out.trans HJ2.out.2.2).trans (grown_ext ((Ext.refl w2).alloc _))⟩
    have HX3 := Sd.mk (HJ2.out.1.alloc (.cells (vv r (.slice none 0 0) k q1) 81))
    have HM3 := Sd.mk (HM2.out.ext ((Ext.refl w2).alloc (.cells (vv r (.slice none 0 0) k q1) 81)))
    have hs3 : w2.heap.size < (w2.alloc (.cells (vv r (.slice none 0 0) k q1) 81)).heap.size := by simp
    clear HB2 HM2 HG1 HX1 HM1 HJ2 HB1
    generalize w2.alloc (.cells (vv r (.slice none 0 0) k q1) 81) = W3 at *
    generalize w2.heap.size = b at *
    have f := box_cell HB3.out
    go_wp2_with fail
    clear f
    go_loopg [30] l.length (fun g v30 wr => ∃ (j : Nat) (xs : List Value) (tv : Value), v30 = .int .i64 j ∧ g + j = l.length ∧ Sd (VlI k r l A c q1 w0 w m b wr j xs tv))
    case atStart => exact ⟨0, [], _, rfl, by omega, ⟨HX3.out, HM3.out, HG3.out, HB3.out, HV3.out, World.ownsRow_nil _ _ _ _, rfl⟩⟩
    case round =>
      clear HB3 HV3 HG3 HX3 HM3
      obtain ⟨j, xs, tv, rfl, hg, hI⟩ := hrel
      obtain ⟨he, hm, hgr, hb1, hb2, ho, hr⟩ := hI.out
      have HE := Sd.mk he
      have HM := Sd.mk hm
      have HG := Sd.mk hgr
      have HB1 := Sd.mk hb1
      have HB2 := Sd.mk hb2
      have HO := Sd.mk ho
      have HR := Sd.mk hr
      clear he hm hgr hb1 hb2 ho hr hI
      by_cases hj : j < l.length
      · obtain ⟨ad, B, c', rfl, e0, hn, e1, e2, e3, hAt⟩ := HA.out.elem j hj
        have HAt := Sd.mk hAt
        clear hAt
        have e0 := HE.out.cell e0
        have e1 := HE.out.cell e1
        have e2 := HE.out.cell e2
        have e3 := HE.out.cell e3
        have f := box_cell HB1.out
        go_upto_region 7 with (fail)
        have HKy := Sd.mk (box_alloc wr (.cells #[.string (l[j]).1, .int .i64 (l[j]).2.kind, .string (l[j]).2.raw, .slice B (l[j]).2.kids.length c'] 39))
        have HBy := Sd.mk (box_keep HB2.out (.cells #[.string (l[j]).1, .int .i64 (l[j]).2.kind, .string (l[j]).2.raw, .slice B (l[j]).2.kids.length c'] 39))
        have HOy := Sd.mk (World.ownsRow.alloc HO.out (.cells #[.string (l[j]).1, .int .i64 (l[j]).2.kind, .string (l[j]).2.raw, .slice B (l[j]).2.kids.length c'] 39))
        have HRy : Sd (VRows (wr.alloc (.cells #[.string (l[j]).1, .int .i64 (l[j]).2.kind, .string (l[j]).2.raw, .slice B (l[j]).2.kids.length c'] 39)) (NK (b + 1) tv) (l.take j) xs) := ⟨HR.out.keep fun q hq hl => ⟨((Ext.refl wr).alloc _).block q hl, hq⟩⟩
        have HJ : Sd (VJ w0 (wr.alloc (.cells #[.string (l[j]).1, .int .i64 (l[j]).2.kind, .string (l[j]).2.raw, .slice B (l[j]).2.kids.length c'] 39)) m (wr.alloc (.cells #[.string (l[j]).1, .int .i64 (l[j]).2.kind, .string (l[j]).2.raw, .slice B (l[j]).2.kids.length c'] 39)).drew) := ⟨(HE.out.alloc _).drewN 1, (HM.out.ext ((Ext.refl wr).alloc _)).ext ((Ext.refl _).drewN 1), grown_ext ((Ext.refl _).drewN 1)⟩
        have HB1y := Sd.mk (box_keep HB1.out (.cells #[.string (l[j]).1, .int .i64 (l[j]).2.kind, .string (l[j]).2.raw, .slice B (l[j]).2.kids.length c'] 39))
        have HGy : Sd (w.grownBy (wr.alloc (.cells #[.string (l[j]).1, .int .i64 (l[j]).2.kind, .string (l[j]).2.raw, .slice B (l[j]).2.kids.length c'] 39)) (some m)) := ⟨HG.out.trans (grown_ext ((Ext.refl wr).alloc _))⟩
        have hmr : m < wr.heap.size := HM.out.lt
        have HML : Sd (m < wr.heap.size ∧ wr.heap.size + 1 = (wr.alloc (.cells #[.string (l[j]).1, .int .i64 (l[j]).2.kind, .string (l[j]).2.raw, .slice B (l[j]).2.kids.length c'] 39)).heap.size) := ⟨hmr, by simp⟩
        have hbr : b < wr.heap.size := heap_lt HB2.out
        have hby : b + 1 ≤ (wr.alloc (.cells #[.string (l[j]).1, .int .i64 (l[j]).2.kind, .string (l[j]).2.raw, .slice B (l[j]).2.kids.length c'] 39)).heap.size := by have := HML.out.2; omega
        clear f e0 e1 e2 e3 HB2 HO HR HB1 HG
        generalize wr.alloc (.cells #[.string (l[j]).1, .int .i64 (l[j]).2.kind, .string (l[j]).2.raw, .slice B (l[j]).2.kids.length c'] 39) = wy at *
        have FB : Sd (∀ W, VJ w0 wy m W → W.heap[b]? = some (.cells (vv r tv k q1) 81 (0, 0))) := ⟨fun W h => h.box HBy.out (by have := hlt.out; omega)⟩
        have FK : Sd (∀ W, VJ w0 wy m W → W.heap[wr.heap.size]? = some (.cells #[.string (l[j]).1, .int .i64 (l[j]).2.kind, .string (l[j]).2.raw, .slice B (l[j]).2.kids.length c'] 39 (0, 0))) := ⟨fun W h => h.box HKy.out (by omega)⟩
        have FO : Sd (∀ W, VJ w0 wy m W → W.ownsRow (b + 1) 82 1 tv j xs) := ⟨fun W h => HOy.out.kept h.2.2 (Or.inr fun e => by have := owns_base HOy.out m e; have := hlt.out; omega)⟩
        have FR : Sd (∀ W, VJ w0 wy m W → VRows W (NK (b + 1) tv) (l.take j) xs) := ⟨fun W h => HRy.out.keep fun q hq hl => ⟨h.2.2.block q hl (by have := hq.1; have := hlt.out; simp; omega), hq⟩⟩
        have fk := box_cell HKy.out
        have fb := box_cell HBy.out
        go_region_law (first | (go_simp; go_at_call 31; refine (pos_c _ m HJ.out.2.1).mono ?_; rintro e w5 ⟨qp, rfl, hm, hg⟩; have HV := Sd.mk (HV.out.keep (w' := w5) (N' := fun q => wy.heap.size ≤ q) fun q hq hl => ⟨hg.block q hl (by have := HML.out; simp; omega), hq⟩); have HJ := Sd.mk (HJ.out.after hm0 hm hg); clear fk fb; have fk := box_cell (FK.out _ HJ.out); have fb := box_cell (FB.out _ HJ.out); have fbA : ∀ i o, (w5.alloc o).cell? ⟨b, i, none⟩ = _ := fun i o => box_cell (box_keep (FB.out _ HJ.out) o) i; have fbB : ∀ i o o', ((w5.alloc o).alloc o').cell? ⟨b, i, none⟩ = _ := fun i o o' => box_cell (box_keep (box_keep (FB.out _ HJ.out) o) o') i; clear hm hg) | (go_simp; go_at_call 31; refine (pos_c _ m HJ.out.2.1).mono ?_; rintro e w5 ⟨qp, rfl, hm, hg⟩; have HJ := Sd.mk (HJ.out.after hm0 hm hg); clear fk fb; have fk := box_cell (FK.out _ HJ.out); have fb := box_cell (FB.out _ HJ.out); have fbA : ∀ i o, (w5.alloc o).cell? ⟨b, i, none⟩ = _ := fun i o => box_cell (box_keep (FB.out _ HJ.out) o) i; have fbB : ∀ i o o', ((w5.alloc o).alloc o').cell? ⟨b, i, none⟩ = _ := fun i o o' => box_cell (box_keep (box_keep (FB.out _ HJ.out) o) o') i; clear hm hg) | (go_simp; go_at_call 20; refine (IH.out j hj w0 _ m _ HAt.out (HF.out j hj) HJ.out.1 hm0 HJ.out.2.1).mono ?_; rintro e w5 ⟨qv, rfl, hm, hg, hv⟩; have HV : Sd (VAt w5 (fun q => wy.heap.size ≤ q) (l[j]).2 qv) := ⟨hv.keep fun q hq _ => ⟨rfl, Nat.le_trans HJ.out.2.2.size hq⟩⟩; have HJ := Sd.mk (HJ.out.after hm0 hm hg); clear fk fb; have fk := box_cell (FK.out _ HJ.out); have fb := box_cell (FB.out _ HJ.out); have fbA : ∀ i o, (w5.alloc o).cell? ⟨b, i, none⟩ = _ := fun i o => box_cell (box_keep (FB.out _ HJ.out) o) i; have fbB : ∀ i o o', ((w5.alloc o).alloc o').cell? ⟨b, i, none⟩ = _ := fun i o o' => box_cell (box_keep (box_keep (FB.out _ HJ.out) o) o') i; clear hm hg hv) | (refine step_append_lies _ rfl (.tmp 38) (.tmp 49) 75 rfl (b + 1) 82 i0 (.pointer none) 1 8 Tryz.underlying75 hi hz0 hz1 hz2 rfl (by decide) tv j xs rfl (World.ownsRow.alloc (World.ownsRow.alloc (FO.out _ HJ.out) _) _) ⟨w5.heap.size + 1, 0, none⟩ 1 1 [.pointer (some ⟨w5.heap.size, 0, none⟩)] rfl rfl (fun q u hu => by have := cells_at (w := w5.alloc (.cells (cv (l[j]).1 qv qp) 84)) #[.pointer (some ⟨w5.heap.size, 0, none⟩)] 82 q u hu; simpa using this) (by simp [Value.oneCell']) (by decide) (by unfold maxLen; omega) (by omega) (by have := HJ.out.2.2.size; simp; omega) (w5.heap.size + 2) (by simp) ?_; intro g2 cap2 w8 hown hgrow hat hlt8; have HOWN := Sd.mk hown; have HGR : Sd (((w5.alloc (.cells (cv (l[j]).1 qv qp) 84)).alloc (.cells #[.pointer (some ⟨w5.heap.size, 0, none⟩)] 82)).grownBy w8 tv.ownBlock) := ⟨hgrow⟩; have HAT := Sd.mk hat; have HB8 : Sd (w8.heap[b]? = some (.cells (vv r tv k q1) 81 (0, 0))) := ⟨box_grown (box_keep (box_keep (FB.out _ HJ.out) _) _) hgrow fun k hk e => by have := owns_base (FO.out _ HJ.out) k hk; omega⟩; have fb := box_cell HB8.out; have fz8 := box_frozen HB8.out; clear hown hgrow hat hlt8))
        all_goals
          go_wp2_with fail
          go_roundg (l.length - (j + 1))
          case measure => omega
          case rel =>
            refine ⟨j + 1, _, .slice (some ⟨g2, 0, none⟩) (j + 1) cap2, by go_num, by omega, ⟨VlI.turn hlt.out (by omega) hm0 hj HGy.out HJ.out HB1y.out HBy.out HOy.out HRy.out HV.out (by omega) HOWN.out HGR.out HAT.out⟩⟩
      · go_wp2_with fail
        refine bodyPost_ret (v := .pointer (some ⟨b, 0, none⟩)) (by simp [results, Tryz.results20, go_sem]) rfl ⟨b, rfl, HM.out, HG.out, ?_⟩
        have hj2 : j = l.length := by omega
        subst hj2
        have hr := HR.out
        rw [List.take_length] at hr
        simp only [VAt]
        rcases HO.out.2 with ⟨rfl, hm0⟩ | ⟨g, cap, cur, rfl, hg1, hg2, hg3, hg4, hg5, hg6⟩
        · obtain rfl : l = [] := List.eq_nil_of_length_eq_zero hm0
          exact ⟨none, 0, q1, by omega, HB2.out, by simp [VAll]⟩
        · refine ⟨some ⟨g, 0, none⟩, cap, q1, by omega, HB2.out, VRows.all (fun q hq => ?_) ?_ hr fun j u hu => ?_⟩
          · have := hq.1; omega
          · show w.heap.size ≤ g; omega
          · have h2 := (List.getElem?_eq_some_iff.1 hu).1
            have h3 := HO.out.cellAt j (by have := HO.out.1; omega)
            rw [hu] at h3
            rw [add_at]
            simpa using h3

end Go.Proofs.YtcfgjmdfpnfkjaaGreatDoor
