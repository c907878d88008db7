/- Parts of the proof of the statement that this folder hands in: lemmas and contracts (Qd). -/
import Derived.Test.YtcfgjmdfpnfkjaaGreatDoorOaMg
set_option linter.unusedSimpArgs false
set_option linter.unusedVariables false
set_option linter.unusedSimpArgs false
namespace Go.Proofs.YtcfgjmdfpnfkjaaGreatDoor
open Go.RowKit Pf
open Go.ChangeMaps (setBlock)

set_option maxRecDepth 100000 in
set_option maxHeartbeats 8000000 in
theorem do_map (l : List (ByteArray × PD)) (ih : ∀ j (hj : j < l.length), DoC (l[j]).2) (r : Nat) (es : Array MapEntry) (clock : Nat) (q : MapEntry → Nat) (w : World) (N : Nat → Prop) (hl : l.length ≤ 1048576) (hr : Rising l) (hb : w.heap[r]? = some (.map es clock)) (F : Ents es clock)
    (hk : ∀ e ∈ es.toList, ∃ h : q e < l.length, e.key = .string (l[q e]).1) (hx : ∀ e ∈ es.toList, ∀ h : q e < l.length, Any w N e.val (l[q e]).2) (hn : ∀ i (h : i < l.length), ∃ e ∈ es.toList, e.key = .string (l[i]).1) :
    Calls Tryz.prog 22 #[.iface 85 (.map (some r))] w (DoR w (.mk 6 false 0 0 noS l)) := by
  obtain ⟨i0, hi, hz0, hz1, hz2⟩ := info_parts info49
  have IH := Sd.mk ih
  have HR0 := Sd.mk hr
  have HB := Sd.mk hb
  have HF := Sd.mk F
  have HK := Sd.mk hk
  have HX := Sd.mk hx
  have HN := Sd.mk hn
  clear ih hr hb F hk hx hn
  have a4 := fun v w => n4 85 v w (by decide)
  have a2 := fun v w => n2 85 v w (by decide)
  have a44 := fun v w => n44 85 v w (by decide)
  have a9 := fun v w => n9 85 v w (by decide)
  have a93 := fun v w => n93 85 v w (by decide)
  have a85 := y85
  go_enter Tryz.func22, Tryz.ntmps22
  go_wp2_with (first | (at_range; refine wp_range_at _ rfl _ 85 rfl 9 20 Tryz.underlying85 r (box_keep (box_keep HB.out _) _) rfl (w.heap.size + 1 + 1) (by simp) ?_) | fail)
  clear a4 a2 a44 a9 a93 a85
  go_frame
  go_loopg [63] (leftN es #[]) (fun g v63 wr => ∃ (seen : Array Nat) (ps : List (ByteArray × PD)) (xs : List Value) (tv : Value), g = leftN es seen ∧ Sd (DmI l es clock r w wr seen ps xs tv))
  case atStart => exact ⟨#[], [], [], .slice none 0 0, rfl, ⟨DmI.start l es clock r w⟩⟩
  case round =>
    obtain ⟨seen, ps, xs, tv, rfl, hI⟩ := hrel
    obtain ⟨he, h1, h2, h3, hc, ho, hr⟩ := hI.out
    have HE := Sd.mk he
    have H1 := Sd.mk h1
    have H2 := Sd.mk h2
    have H3 := Sd.mk h3
    have HC := Sd.mk hc
    have HO := Sd.mk ho
    have HR := Sd.mk hr
    clear he h1 h2 h3 hc ho hr hI
    go_wp2_with (at_next; go_loud (refine wp_next _ rfl _ rfl r (w.heap.size + 1 + 1) HF.out (box_ext HB.out HE.out) H3.out (by simp [Act.eval]) ?_ ?_))
    · intro hd
      have HM := Sd.mk (HC.out.all HR0.out (fun e he => hd e (by simpa using he)) fun p hp => by obtain ⟨i, hi, rfl⟩ := List.getElem_of_mem hp; exact HN.out i hi)
      clear hd
      have f2 := box_cell H2.out
      go_wp2_with (go_at_call 35; refine (sort_c w _ (w.heap.size + 1) (w.heap.size + 3) false 0 0 ⟨#[]⟩ l ps xs tv HR0.out hl HM.out HC.out.nd HC.out.len HE.out H2.out (by omega) (by omega) HO.out HR.out).mono ?_; rintro e w2 ⟨rfl, he2, hk2, A, c, rfl, hall⟩; have HE2 := Sd.mk he2; have HAL := Sd.mk hall; have HH2 : Sd (w2.heap[w.heap.size + 1]? = _) := ⟨(hk2 _ (by omega) (heap_lt H2.out)).trans H2.out⟩; have HH1 : Sd (w2.heap[w.heap.size]? = _) := ⟨(hk2 _ (by omega) (heap_lt H1.out)).trans H1.out⟩; clear he2 hk2 hall f2; have f2 := box_cell HH2.out; have f1 := box_cell HH1.out; have fz1 := box_frozen HH1.out)
      have HB4 := Sd.mk (six HH1.out (.int .i64 6) (.bool false) (.int .i64 0) (.int .u64 0) (.string ⟨#[]⟩) (.slice A l.length c))
      have fc := box_cell HB4.out
      refine bodyPost_ret (v := .agg (dv 6 false 0 0 ⟨#[]⟩ A l.length c)) (by simp [results, Tryz.results22, go_sem, fc]) rfl ⟨_, rfl, six_ext HE2.out (Nat.le_refl _) _ _ _ _ _ _, ?_⟩
      simp only [PD.At]
      exact ⟨A, c, rfl, hl, All.six HAL.out (fun k hk => ⟨by omega, by omega⟩) _ _ _ _ _ _⟩
    · intro e w1 s he' hse hks hw1 hen
      have he : e ∈ es.toList := by simpa using he'
      clear he'
      obtain ⟨hq, hkq⟩ := HK.out e he
      have HW1 : Sd (Ext w w1 ∧ w1.heap = wr.heap) := by
        rcases hw1 with rfl | rfl
        · exact ⟨HE.out, rfl⟩
        · exact ⟨HE.out.drewN 1, rfl⟩
      have HEV := Sd.mk (HW1.out.1.set (b := w.heap.size + 1 + 1) (by omega) (.mapIter (some r) clock (seen.push e.born) clock))
      have H1V : Sd ((setBlock w1 (w.heap.size + 1 + 1) (.mapIter (some r) clock (seen.push e.born) clock)).heap[w.heap.size]? = _) := ⟨(set_other (by omega)).trans ((congrArg (·[w.heap.size]?) HW1.out.2).trans H1.out)⟩
      have H2V : Sd ((setBlock w1 (w.heap.size + 1 + 1) (.mapIter (some r) clock (seen.push e.born) clock)).heap[w.heap.size + 1]? = _) := ⟨(set_other (by omega)).trans ((congrArg (·[w.heap.size + 1]?) HW1.out.2).trans H2.out)⟩
      have H3V := Sd.mk (set_same (w := w1) (o := .mapIter (some r) clock (seen.push e.born) clock) (by rw [HW1.out.2]; exact H3.out))
      have hkV : ∀ k, w.heap.size + 3 ≤ k → (setBlock w1 (w.heap.size + 1 + 1) (.mapIter (some r) clock (seen.push e.born) clock)).heap[k]? = wr.heap[k]? := fun k hk => (set_other (by omega)).trans (congrArg (·[k]?) HW1.out.2)
      have hgV : wr.grownBy (setBlock w1 (w.heap.size + 1 + 1) (.mapIter (some r) clock (seen.push e.born) clock)) (some (w.heap.size + 1 + 1)) := by
        refine ⟨?_, ?_, ?_, ?_, fun k hk hne => (set_other (fun e => hne (by rw [e]))).trans (congrArg (·[k]?) HW1.out.2)⟩
        all_goals first | (rcases hw1 with rfl | rfl <;> rfl) | (simp [setBlock, HW1.out.2])
      have HOV := Sd.mk (HO.out.kept hgV (Or.inr fun e => by have := owns_base HO.out _ e; omega))
      have HRV : Sd (Rows (setBlock w1 (w.heap.size + 1 + 1) (.mapIter (some r) clock (seen.push e.born) clock)) (NK (w.heap.size + 3) tv) ps xs) := ⟨HR.out.keep fun k hk _ => ⟨hkV k hk.1, hk⟩⟩
      have HNL := Sd.mk (leftN_push he hse)
      have hsl : s = (l[q e]).1 := by rw [hks] at hkq; exact Value.string.inj hkq
      have HCV := Sd.mk (HC.out.step HF.out he hse (List.getElem_mem hq) hkq)
      have HXV := Sd.mk (HX.out e he hq)
      have IHV := Sd.mk (IH.out (q e) hq)
      clear hw1 hse hks hkq hkV hgV H1 H2 H3 HC HO HR
      subst hsl
      generalize l[q e] = P at *
      obtain ⟨nm, p⟩ := P
      obtain ⟨A0, c0, htv⟩ : ∃ A c, tv = .slice A ps.length c := by
        rcases HOV.out.2 with ⟨h1, h2⟩ | ⟨g, cap, cur, h1, -⟩
        · exact ⟨none, 0, by rw [h1, h2]⟩
        · exact ⟨_, _, h1⟩
      subst htv
      have hpl : ps.length + 1 ≤ 1048576 := by have := HCV.out.len; simp at this; omega
      have hxl := HOV.out.1
      have hVs : w.heap.size + 3 ≤ (setBlock w1 (w.heap.size + 1 + 1) (.mapIter (some r) clock (seen.push e.born) clock)).heap.size := heap_lt H3V.out
      generalize setBlock w1 (w.heap.size + 1 + 1) (.mapIter (some r) clock (seen.push e.born) clock) = V at *
      have f2 := box_cell H2V.out
      go_upto_region 29 with (fail)
      clear hen
      have fD1 : ∀ i o, (V.alloc o).cell? ⟨w.heap.size + 1, i, none⟩ = _ := fun i o => box_cell (box_keep H2V.out o) i
      have b1 : (ps.length : Int) < (ps.length : Int) + 1 := by omega
      go_region_law (first | (go_simp; go_at_call 22; refine (IHV.out _ N _ (HXV.out.ext (HEV.out.drewN 1))).mono ?_; rintro e w5 ⟨cs, rfl, he, hp⟩; obtain ⟨k, b, n, fl, s, A2, len, cp, rfl⟩ := hp.form; have HE5 : Sd (Ext V w5) := ⟨((Ext.refl V).drewN 1).trans he⟩; have HP5 : Sd (p.At w5 (fun q => V.heap.size ≤ q) (dv k b n fl s A2 len cp).toList) := ⟨hp.keep fun q hq _ => ⟨rfl, by simp at hq; omega⟩⟩; clear f2; have f2 := box_cell (box_ext H2V.out HE5.out); have f2A : ∀ i o, (w5.alloc o).cell? ⟨w.heap.size + 1, i, none⟩ = _ := fun i o => box_cell (box_keep (box_ext H2V.out HE5.out) o) i; clear he hp) | (go_simp; go_at_call 22; refine (IHV.out _ N _ (HXV.out.ext ((HEV.out.alloc (.cells zkC 49)).drewN 1))).mono ?_; rintro e w5 ⟨cs, rfl, he, hp⟩; obtain ⟨k, b, n, fl, s, A2, len, cp, rfl⟩ := hp.form; have HE5 : Sd (Ext V w5) := ⟨(((Ext.refl V).alloc (.cells zkC 49)).drewN 1).trans he⟩; have HP5 : Sd (p.At w5 (fun q => V.heap.size ≤ q) (dv k b n fl s A2 len cp).toList) := ⟨hp.keep fun q hq _ => ⟨rfl, by simp at hq; omega⟩⟩; have HZ5 : Sd (w5.heap[V.heap.size]? = some (.cells zkC 49 (0, 0))) := ⟨box_ext (show ((V.alloc (.cells zkC 49)).drewN 1).heap[V.heap.size]? = _ from box_alloc V (.cells zkC 49)) he⟩; clear f2; have f2 := box_cell (box_ext H2V.out HE5.out); have f2A : ∀ i o, (w5.alloc o).cell? ⟨w.heap.size + 1, i, none⟩ = _ := fun i o => box_cell (box_keep (box_ext H2V.out HE5.out) o) i; clear he hp) | (refine step_append_lies _ rfl (.tmp 69) (.tmp 75) 29 rfl (w.heap.size + 3) 49 i0 zkid 7 88 Tryz.underlying29 hi hz0 hz1 hz2 rfl (by decide) (.slice A0 ps.length c0) ps.length xs rfl (World.ownsRow.alloc (owns_ext HOV.out HE5.out) _) ⟨w5.heap.size, 0, none⟩ 1 1 zkC.toList rfl rfl (fun q u hu => by have := cells_at (w := w5) zkC 49 q u hu; simpa using this) (by simp [Value.oneCell']) (by decide) (by unfold maxLen; omega) (by omega) (by have := HE5.out.size; simp; omega) (w5.heap.size + 1) (by simp) ?_; intro g2 cap2 w8 hown hgrow hat hlt8; have HOWN := Sd.mk hown; have HGR : Sd ((w5.alloc (.cells zkC 49)).grownBy w8 (Value.slice A0 ps.length c0).ownBlock) := ⟨hgrow⟩; have HATT : Sd ((Value.slice A0 ps.length c0).ownBlock = some g2 ∨ g2 = (w5.alloc (.cells zkC 49)).heap.size) := ⟨by simpa using hat⟩; have HEU : Sd (Ext V (w5.alloc (.cells zkC 49))) := ⟨HE5.out.alloc _⟩; have HPU : Sd (p.At (w5.alloc (.cells zkC 49)) (fun q => V.heap.size ≤ q) (dv k b n fl s A2 len cp).toList) := ⟨HP5.out.ext ((Ext.refl w5).alloc _)⟩; have hGP := grow_pack (HEV.out.trans HEU.out) (show w.heap.size ≤ w.heap.size + 3 by omega) (owns_ext HOV.out HEU.out) hgrow; have HB8 := Sd.mk (hGP.2 _ _ (by omega) (box_ext H2V.out HEU.out)); have f8 := box_cell HB8.out; have fz8 := box_frozen HB8.out; have hg3 : w.heap.size + 3 ≤ g2 := owns_base hown g2 rfl; have hne1 : g2 ≠ w.heap.size + 1 := (by omega); have hne2 : ¬ (w.heap.size + 1 = g2) := (by omega); have cc0 := zk_at hown hxl 0 (by decide); have cc1 := zk_at hown hxl 1 (by decide); have cc2 := zk_at hown hxl 2 (by decide); have cc3 := zk_at hown hxl 3 (by decide); have cc4 := zk_at hown hxl 4 (by decide); have cc5 := zk_at hown hxl 5 (by decide); have cc6 := zk_at hown hxl 6 (by decide); have fzg := fun i => hown.frozenAt i; rw [Nat.add_zero] at cc0; clear hown hgrow hat hlt8 hGP) | (refine step_append_lies _ rfl (.tmp 69) (.tmp 75) 29 rfl (w.heap.size + 3) 49 i0 zkid 7 88 Tryz.underlying29 hi hz0 hz1 hz2 rfl (by decide) (.slice A0 ps.length c0) ps.length xs rfl (owns_ext HOV.out HE5.out) ⟨V.heap.size, 0, none⟩ 1 1 zkC.toList rfl rfl (fun q u hu => by rw [add_at, Nat.zero_add, box_cell HZ5.out, ← Array.getElem?_toList]; exact hu) (by simp [Value.oneCell']) (by decide) (by unfold maxLen; omega) (by omega) (by have := HE5.out.size; simp; omega) (w5.heap.size) (rfl) ?_; intro g2 cap2 w8 hown hgrow hat hlt8; have HOWN := Sd.mk hown; have HGR : Sd ((w5).grownBy w8 (Value.slice A0 ps.length c0).ownBlock) := ⟨hgrow⟩; have HATT : Sd ((Value.slice A0 ps.length c0).ownBlock = some g2 ∨ g2 = w5.heap.size) := ⟨hat⟩; have HEU : Sd (Ext V (w5)) := ⟨HE5.out⟩; have HPU : Sd (p.At (w5) (fun q => V.heap.size ≤ q) (dv k b n fl s A2 len cp).toList) := ⟨HP5.out⟩; have hGP := grow_pack (HEV.out.trans HEU.out) (show w.heap.size ≤ w.heap.size + 3 by omega) (owns_ext HOV.out HEU.out) hgrow; have HB8 := Sd.mk (hGP.2 _ _ (by omega) (box_ext H2V.out HEU.out)); have f8 := box_cell HB8.out; have fz8 := box_frozen HB8.out; have hg3 : w.heap.size + 3 ≤ g2 := owns_base hown g2 rfl; have hne1 : g2 ≠ w.heap.size + 1 := (by omega); have hne2 : ¬ (w.heap.size + 1 = g2) := (by omega); have cc0 := zk_at hown hxl 0 (by decide); have cc1 := zk_at hown hxl 1 (by decide); have cc2 := zk_at hown hxl 2 (by decide); have cc3 := zk_at hown hxl 3 (by decide); have cc4 := zk_at hown hxl 4 (by decide); have cc5 := zk_at hown hxl 5 (by decide); have cc6 := zk_at hown hxl 6 (by decide); have fzg := fun i => hown.frozenAt i; rw [Nat.add_zero] at cc0; clear hown hgrow hat hlt8 hGP))
      all_goals
          go_wp2_with fail
          go_roundg (leftN es (seen.push e.born))
          case measure => exact HNL.out
          case rel =>
            refine ⟨seen.push e.born, ps ++ [(nm, p)], xs ++ (kidC nm k b n fl s A2 len cp).toList, .slice (some ⟨g2, 0, none⟩) (ps.length + 1) cap2, rfl, ⟨?_⟩⟩
            first
              | with_reducible exact DmI.turn HEV.out H1V.out H2V.out H3V.out HCV.out HOV.out HRV.out HEU.out HPU.out HOWN.out HGR.out HATT.out
              | with_reducible exact DmI.turn2 HEV.out H1V.out H2V.out H3V.out HCV.out HOV.out HRV.out HEU.out HPU.out HOWN.out HGR.out HATT.out

end Go.Proofs.YtcfgjmdfpnfkjaaGreatDoor
