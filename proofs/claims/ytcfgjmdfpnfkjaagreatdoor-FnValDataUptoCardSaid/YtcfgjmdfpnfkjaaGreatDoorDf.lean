/- Parts of the proof of the statement that this folder hands in: lemmas and contracts (Df). -/
import Derived.Test.YtcfgjmdfpnfkjaaGreatDoorYdMg
set_option linter.unusedSimpArgs false
set_option linter.unusedVariables false
set_option linter.unusedSimpArgs false
namespace Go.Proofs.YtcfgjmdfpnfkjaaGreatDoor
open Go.RowKit Pf

set_option maxRecDepth 100000 in
set_option maxHeartbeats 8000000 in
theorem ob_c (L : LayP) (r : ByteArray) (l : List (ByteArray × GV)) (ih : ∀ j (hj : j < l.length), SvC L (l[j]).2) (A : Option Addr) (c : Nat) (w : World) (hl : l.length ≤ 1048576) (hA : GV.All w A 0 l)
    (hf : ∀ i (h : i < l.length), GV.Fit (l[i]).2) (hL : Lay L w) (hw : 13 ≤ w.heap.size) : Calls Tryz.prog 18 #[.agg (gv 9 r A l.length c)] w (SvR L (.mk 9 r l) w) := by
  obtain ⟨i0, hi, hz0, hz1, hz2⟩ := info_parts info49
  have HA := Sd.mk hA
  have IH := Sd.mk ih
  have HF := Sd.mk hf
  have HL := Sd.mk hL
  clear hA ih hf hL
  go_enter Tryz.func18, Tryz.ntmps18
  go_wp2_with fail
  go_loopg [16] l.length (fun g v16 wr => ∃ (j : Nat) (ps : List (ByteArray × PD)) (xs : List Value) (tv : Value), v16 = .int .i64 j ∧ g + j = l.length ∧ Sd (ObjI L r l A c w wr j ps xs tv))
  case atStart =>
    exact ⟨0, [], [], .slice none 0 0, rfl, by omega, ⟨(((Ext.refl _).alloc _).alloc _).alloc _, box_keep (box_keep (box_alloc _ _) _) _, box_keep (box_alloc2 _ _ _) _, box_alloc3 _ _ _ _, owns_nil _ _ _ _, rfl, GotTo.nil _ _⟩⟩
  case round =>
    obtain ⟨j, ps, xs, tv, rfl, hg, hI⟩ := hrel
    obtain ⟨he, hb1, hb2, hb3, ho, hr, ht⟩ := hI.out
    have HE := Sd.mk he
    have HB1 := Sd.mk hb1
    have HB2 := Sd.mk hb2
    have HB3 := Sd.mk hb3
    have HO := Sd.mk ho
    have HR := Sd.mk hr
    have HT := Sd.mk ht
    clear hI he hb1 hb2 hb3 ho hr ht
    have f := box_cell HB1.out
    by_cases hj : j < l.length
    · obtain ⟨ad, B, c', rfl, e0, hn, e1, e2, e3, hAt⟩ := (HA.out.ext HE.out).elem j hj
      have HAt := Sd.mk hAt
      clear hAt
      go_wp2_with fail
      have HW := Sd.mk ((Ext.refl wr).alloc (.cells #[.string (l[j]).1, .int .i64 (l[j]).2.kind, .string (l[j]).2.raw, .slice B (l[j]).2.kids.length c'] 39))
      have HBK := Sd.mk (box_alloc wr (.cells #[.string (l[j]).1, .int .i64 (l[j]).2.kind, .string (l[j]).2.raw, .slice B (l[j]).2.kids.length c'] 39))
      refine (IH.out j hj _ _ (HL.out.ext (HE.out.trans HW.out)) (Nat.le_trans hw (HE.out.trans HW.out).size) (HAt.out.ext HW.out) (HF.out j hj)).mono ?_
      rintro e w2 ⟨k, b, n, fl, s, A2, len, cp, ok, rfl, he, hok, hp⟩
      have HW2 := Sd.mk (HW.out.trans he)
      have HE2 := Sd.mk (HE.out.trans HW2.out)
      have HOK := Sd.mk hok
      have HP := Sd.mk hp
      have HB1' := Sd.mk (box_ext HB1.out HW2.out)
      have HB2' := Sd.mk (box_ext HB2.out HW2.out)
      have HB3' := Sd.mk (box_ext HB3.out HW2.out)
      have HBK' := Sd.mk (box_ext HBK.out he)
      have HO' := Sd.mk (owns_ext HO.out HW2.out)
      have HR' := Sd.mk (HR.out.ext HW2.out)
      have he2s := he.size
      clear he hok hp f e0 e1 e2 e3
      cases ok
      · have HN : Sd (gd L (.mk 9 r l) = none) := ⟨gd9_none (gdL_none hj (by have := HOK.out; cases hgd : gd L (l[j]).2 with | none => rfl | some x => rw [hgd] at this; cases this))⟩
        have fA2 : ∀ i o, (w2.alloc o).cell? ⟨w.heap.size + 1, i, none⟩ = z31[i]? := fun i o => box_cell (box_keep HB2'.out o) i
        have fzA2 : ∀ i o, (w2.alloc o).frozen? ⟨w.heap.size + 1, i, none⟩ = false := fun i o => box_frozen (box_keep HB2'.out o) i
        have HBx := Sd.mk (box_keep HB2'.out (.cells #[.int .i64 k, .bool b, .int .i64 n, .int .u64 fl, .string s, .slice A2 len cp] 31))
        have HEx := Sd.mk (HE2.out.alloc (.cells #[.int .i64 k, .bool b, .int .i64 n, .int .u64 fl, .string s, .slice A2 len cp] 31))
        go_wp2_with fail
        refine ob_fin (b := w.heap.size + 1) (k := 0) (bl := false) (n := 0) (f := 0) (s := ⟨#[]⟩) (A := none) (len := 0) (c := 0) (ok := false) ?_ rfl rfl rfl ?_
        · exact six HBx.out _ _ _ _ _ _
        · exact svR_none HN.out (six_ext HEx.out (by omega) _ _ _ _ _ _) _ _ _ _ _ _ _ _
      · obtain ⟨p, hgp⟩ : ∃ p, gd L (l[j]).2 = some p := by
          have := HOK.out
          cases hgd : gd L (l[j]).2 with
          | none => rw [hgd] at this; cases this
          | some x => exact ⟨x, rfl⟩
        have HPA := Sd.mk (HP.out p hgp)
        have HT2 := Sd.mk (HT.out.snoc hj hgp)
        have hlt2 : w.heap.size + 3 ≤ wr.heap.size := by
          have h3 := (Array.getElem?_eq_some_iff.1 HB3.out).1
          omega
        have hsz2 : wr.heap.size + 1 ≤ w2.heap.size := by have := he2s; simpa using this
        have HPB : Sd (p.At w2 (NK (w.heap.size + 3) tv) (dv k b n fl s A2 len cp).toList) := ⟨HPA.out.beside (by simp; omega) (fun k hk => by have := (own_lt HO.out k hk).2; simp; omega)⟩
        have hms : (insAll ps).length ≤ 1048576 := by have := insAll_len ps; have := HT.out.1; omega
        have HIN : Sd (insAll (ps ++ [((l[j]).1, p)]) = ins (l[j]).1 p (insAll ps)) := ⟨insAll_snoc _ _⟩
        clear hgp HOK HP HR HO HB1 HB2 HB3 HPA
        go_upto_block 2 with (fail)
        have HE3 := Sd.mk (HE2.out.alloc (.cells #[.int .i64 k, .bool b, .int .i64 n, .int .u64 fl, .string s, .slice A2 len cp] 31))
        have HB1W := Sd.mk (box_keep HB1'.out (.cells #[.int .i64 k, .bool b, .int .i64 n, .int .u64 fl, .string s, .slice A2 len cp] 31))
        have HB2W := Sd.mk (box_keep HB2'.out (.cells #[.int .i64 k, .bool b, .int .i64 n, .int .u64 fl, .string s, .slice A2 len cp] 31))
        have HB3W := Sd.mk (box_keep HB3'.out (.cells #[.int .i64 k, .bool b, .int .i64 n, .int .u64 fl, .string s, .slice A2 len cp] 31))
        have HBKW := Sd.mk (box_keep HBK'.out (.cells #[.int .i64 k, .bool b, .int .i64 n, .int .u64 fl, .string s, .slice A2 len cp] 31))
        have HBDW := Sd.mk (box_alloc w2 (.cells #[.int .i64 k, .bool b, .int .i64 n, .int .u64 fl, .string s, .slice A2 len cp] 31))
        have HOW := Sd.mk (World.ownsRow.alloc HO'.out (.cells #[.int .i64 k, .bool b, .int .i64 n, .int .u64 fl, .string s, .slice A2 len cp] 31))
        have HRW := Sd.mk (HR'.out.ext ((Ext.refl w2).alloc (.cells #[.int .i64 k, .bool b, .int .i64 n, .int .u64 fl, .string s, .slice A2 len cp] 31)))
        have HPW := Sd.mk (HPB.out.ext ((Ext.refl w2).alloc (.cells #[.int .i64 k, .bool b, .int .i64 n, .int .u64 fl, .string s, .slice A2 len cp] 31)))
        have hWs : w2.heap.size < (w2.alloc (.cells #[.int .i64 k, .bool b, .int .i64 n, .int .u64 fl, .string s, .slice A2 len cp] 31)).heap.size := by simp
        clear HE2 HB1' HB2' HB3' HBK' HO' HR' HPB he2s HW HBK
        generalize w2.alloc (.cells #[.int .i64 k, .bool b, .int .i64 n, .int .u64 fl, .string s, .slice A2 len cp] 31) = W at *
        generalize insAll ps = ms at *
        have hcase := HOW.out.2
        rcases hcase with ⟨rfl, hm0⟩ | ⟨g, cap, cur, rfl, hg1, hg2, hg3, hg4, hg5, hg6⟩
        · have fk := box_cell HBKW.out
          have f3 := box_cell HB3W.out
          have fd := box_cell HBDW.out
          go_wp2_with fail
          go_loopg [9] 0 (fun g v9 wx => v9 = .int .i64 0 ∧ Sd (W = wx))
          case atStart => exact ⟨rfl, ⟨rfl⟩⟩
          case round =>
            obtain ⟨rfl, HQ⟩ := hrel
            obtain rfl := HQ.out
            clear HQ
            obtain rfl : ms = [] := List.eq_nil_of_length_eq_zero hm0
            go_wp2_with fail
            go_quiet (fail)
            have HE4 := Sd.mk (HE3.out.drewN nq)
            have HB1V : Sd ((W.drewN nq).heap[w.heap.size]? = _) := ⟨HB1W.out⟩
            have HB2V : Sd ((W.drewN nq).heap[w.heap.size + 1]? = _) := ⟨HB2W.out⟩
            have HB3V : Sd ((W.drewN nq).heap[w.heap.size + 1 + 1]? = _) := ⟨HB3W.out⟩
            have HBKV : Sd ((W.drewN nq).heap[wr.heap.size]? = _) := ⟨HBKW.out⟩
            have HBDV : Sd ((W.drewN nq).heap[w2.heap.size]? = _) := ⟨HBDW.out⟩
            have HPV := Sd.mk (HPW.out.ext ((Ext.refl W).drewN nq))
            have hVs : w2.heap.size < (W.drewN nq).heap.size := hWs
            clear HE3 HB1W HB2W HB3W HBKW HBDW HOW HRW HPW hWs fk f3
            generalize W.drewN nq = V at *
            have fk := box_cell HBKV.out
            have fd := box_cell HBDV.out
            have f3 := box_cell HB3V.out
            go_upto_region 12 with (fail)
            clear fk fd f3
            have f3 : ∀ i o, (V.alloc o).cell? ⟨w.heap.size + 1 + 1, i, none⟩ = _ := fun i o => box_cell (box_keep HB3V.out o) i
            have fk : ∀ i o, (V.alloc o).cell? ⟨wr.heap.size, i, none⟩ = _ := fun i o => box_cell (box_keep HBKV.out o) i
            go_quiet (fail)
            have HEu := Sd.mk ((HE4.out.alloc (.cells #[.string (l[j]).1, .int .i64 k, .bool b, .int .i64 n, .int .u64 fl, .string s, .slice A2 len cp] 49)).drewN nq)
            have HB1u : Sd (((V.alloc (.cells #[.string (l[j]).1, .int .i64 k, .bool b, .int .i64 n, .int .u64 fl, .string s, .slice A2 len cp] 49)).drewN nq).heap[w.heap.size]? = _) := ⟨box_keep HB1V.out _⟩
            have HB2u : Sd (((V.alloc (.cells #[.string (l[j]).1, .int .i64 k, .bool b, .int .i64 n, .int .u64 fl, .string s, .slice A2 len cp] 49)).drewN nq).heap[w.heap.size + 1]? = _) := ⟨box_keep HB2V.out _⟩
            have HB3u : Sd (((V.alloc (.cells #[.string (l[j]).1, .int .i64 k, .bool b, .int .i64 n, .int .u64 fl, .string s, .slice A2 len cp] 49)).drewN nq).heap[w.heap.size + 1 + 1]? = _) := ⟨box_keep HB3V.out _⟩
            have HKu : Sd (((V.alloc (.cells #[.string (l[j]).1, .int .i64 k, .bool b, .int .i64 n, .int .u64 fl, .string s, .slice A2 len cp] 49)).drewN nq).heap[V.heap.size]? = _) := ⟨box_alloc V (.cells #[.string (l[j]).1, .int .i64 k, .bool b, .int .i64 n, .int .u64 fl, .string s, .slice A2 len cp] 49)⟩
            have HPu := Sd.mk ((HPV.out.ext ((Ext.refl V).alloc (.cells #[.string (l[j]).1, .int .i64 k, .bool b, .int .i64 n, .int .u64 fl, .string s, .slice A2 len cp] 49))).ext ((Ext.refl _).drewN nq))
            have hUs : V.heap.size + 1 = ((V.alloc (.cells #[.string (l[j]).1, .int .i64 k, .bool b, .int .i64 n, .int .u64 fl, .string s, .slice A2 len cp] 49)).drewN nq).heap.size := by simp
            clear f3 fk
            generalize (V.alloc (.cells #[.string (l[j]).1, .int .i64 k, .bool b, .int .i64 n, .int .u64 fl, .string s, .slice A2 len cp] 49)).drewN nq = U at *
            have f10 := box_cell HKu.out
            have f3 := box_cell HB3u.out
            have f3A : ∀ i o, (U.alloc o).cell? ⟨w.heap.size + 1 + 1, i, none⟩ = _ := fun i o => box_cell (box_keep HB3u.out o) i
            go_upto_region 14 with (fail)
            have OW : Sd ((U.alloc (.cells #[.string (l[j]).1, .int .i64 k, .bool b, .int .i64 n, .int .u64 fl, .string s, .slice A2 len cp] 49)).ownsRow U.heap.size 49 7 (.slice (some ⟨U.heap.size, 0, none⟩) 1 1) 1 (#[.string (l[j]).1, .int .i64 k, .bool b, .int .i64 n, .int .u64 fl, .string s, .slice A2 len cp] : Array Value).toList) := ⟨World.ownsRow_lit U _ 1 (Nat.le_refl _) (by decide) rfl⟩
            go_region_law (refine step_rest (by rfl) (.tmp 73) (.tmp 77) 29 rfl U.heap.size 49 i0 zkid 7 88 Tryz.underlying29 hi hz0 hz1 hz2 rfl (by decide) (.slice (some ⟨U.heap.size, 0, none⟩) 1 1) 1 (#[.string (l[j]).1, .int .i64 k, .bool b, .int .i64 n, .int .u64 fl, .string s, .slice A2 len cp] : Array Value).toList rfl (World.ownsRow.of_heap OW.out rfl) (by decide) none 0 0 [] (by simp [Act.eval, Act.put]) (by simp) (fun _ => ⟨rfl, rfl⟩) (fun _ h => by cases h) (fun _ h => by cases h) (by decide) (by decide) (by simp) ?_; intro g2 cap2 w4 hown hgrow; have HG4 := Sd.mk ((((Ext.refl U).alloc _).drewN 1).grown hgrow (Nat.le_refl _) (owns_base OW.out)); have HOWN := Sd.mk hown; clear hown hgrow)
            all_goals
              clear f10 f3 f3A
              have HB1w := Sd.mk (box_ext HB1u.out HG4.out)
              have HB2w := Sd.mk (box_ext HB2u.out HG4.out)
              have HB3w := Sd.mk (box_ext HB3u.out HG4.out)
              have f3 := box_cell HB3w.out
              have H9 : Sd (∀ q u, ((#[.string (l[j]).1, .int .i64 k, .bool b, .int .i64 n, .int .u64 fl, .string s, .slice A2 len cp] : Array Value).toList ++ [])[q]? = some u → w4.cell? ((⟨g2, 0, none⟩ : Addr).add q) = some u) := ⟨fun q u hu => by
                have h2 := (List.getElem?_eq_some_iff.1 hu).1
                simp at h2
                have h3 := HOWN.out.cellAt q (by omega)
                rw [hu] at h3
                rw [add_at]
                simpa using h3⟩
              have H10 : Sd (∀ u ∈ (#[.string (l[j]).1, .int .i64 k, .bool b, .int .i64 n, .int .u64 fl, .string s, .slice A2 len cp] : Array Value).toList ++ [], u.oneCell' = true) := ⟨fun u hu => by
                simp at hu
                rcases hu with rfl | rfl | rfl | rfl | rfl | rfl | rfl <;> rfl⟩
              go_wp2_with (at_builtin; go_loud (refine wpList_append_grows _ rfl (.tmp 83) (.tmp 84) 29 rfl 49 i0 zkid 7 88 Tryz.underlying29 hi hz0 hz1 hz2 rfl (by decide) none 0 0 [] (by simp [Act.eval, Act.put]) (fun h => ⟨rfl, rfl⟩) rfl (fun _ h => by cases h) ⟨g2, 0, none⟩ (1 + 0) cap2 _ (by simp [Act.eval, Act.put]) (by simp) H9.out H10.out (by omega) (by decide) (by decide) ?_; intro v5 w5 hown hgrow; obtain ⟨g3, cap3, rfl, -, -⟩ := hown.form (by omega); have HG5 := Sd.mk ((Ext.refl w4).grown (v := .slice none 0 0) (B := w4.heap.size) hgrow (Nat.le_refl _) (fun k hk => by simp [Value.ownBlock] at hk)); have HOWN5 := Sd.mk hown; have f5 := box_cell (box_ext HB3w.out HG5.out); have fz5 := box_frozen (box_ext HB3w.out HG5.out); clear hown hgrow))
              all_goals
                go_roundg (l.length - (j + 1))
                case measure => omega
                case rel =>
                  refine ⟨j + 1, ps ++ [((l[j]).1, p)], _, .slice (some ⟨g3, 0, none⟩) (0 + (1 + 0)) cap3, by go_num, by omega, ⟨ObjI.put (i := 0) (xs := []) (N := NK (w.heap.size + 3) (.slice none 0 0)) (B := w4.heap.size) (key := (l[j]).1) (p := p) (cs := [.int .i64 k, .bool b, .int .i64 n, .int .u64 fl, .string s, .slice A2 len cp]) (ms := []) ((HEu.out.trans HG4.out).trans HG5.out) (HG4.out.trans HG5.out) (box_ext HB1w.out HG5.out) (box_ext HB2w.out HG5.out) (box_ext HB3w.out HG5.out) HOWN5.out (Nat.le_trans HG4.out.size (Nat.le_refl _)) (by have := HG4.out.size; omega) rfl HPu.out (fun k hk => hk.1) (by simp) (fun _ h => absurd h (by simp)) (fun h => absurd h (by simp)) HIN.out HT2.out⟩⟩
        · have fk := box_cell HBKW.out
          have f3 := box_cell HB3W.out
          go_cut [9] from 29 to 46 (fun v9 wx => ∃ at_ : Nat, v9 = .int .i64 at_ ∧ at_ ≤ ms.length ∧ Sd (∀ i (h : i < ms.length), i < at_ → ltB (ms[i]).1 (l[j]).1) ∧ Sd (∀ h : at_ < ms.length, ¬ ltB (ms[at_]).1 (l[j]).1) ∧ Sd (∃ q, wx = W.drewN q))
          case first =>
            go_wp2_with fail
            go_loopg [9] ms.length (fun g v9 wx => ∃ at_ : Nat, v9 = .int .i64 at_ ∧ g + at_ = ms.length ∧ Sd (∀ i (h : i < ms.length), i < at_ → ltB (ms[i]).1 (l[j]).1) ∧ Sd (∃ q, wx = W.drewN q))
            case atStart => exact ⟨0, rfl, by omega, ⟨fun i _ h => absurd h (by omega)⟩, ⟨0, rfl⟩⟩
            case round =>
              obtain ⟨at_, rfl, hga, HLT, HQ⟩ := hrel
              obtain ⟨q, rfl⟩ := HQ.out
              clear HQ
              by_cases hat : at_ < ms.length
              · have d1 : decide ((at_ : Int) < (ms.length : Int)) = true := decide_eq_true (by omega)
                have d2 : decide (at_ < ms.length) = true := decide_eq_true hat
                have fr : W.cell? ⟨g, at_ * 7, none⟩ = some (.string (ms[at_]).1) := by rw [HOW.out.cellAt (at_ * 7) (by omega)]; exact HRW.out.name at_ hat
                go_wp2_with fail
                cases qlt : Op.bytesLess (ms[at_]).1.toList (l[j]).1.toList
                · go_quiet (fail)
                  go_wp2_with fail
                  go_meet
                  exact ⟨at_, rfl, by omega, HLT, ⟨fun _ => less_f qlt⟩, ⟨_, drewN_add _ _ _⟩⟩
                · go_quiet (fail)
                  go_wp2_with fail
                  go_roundg (ms.length - (at_ + 1))
                  case measure => omega
                  case rel =>
                    refine ⟨at_ + 1, by go_num, by omega, ⟨fun i h hi2 => ?_⟩, ⟨_, rfl⟩⟩
                    by_cases e : i = at_
                    · subst e; exact less_t qlt
                    · exact HLT.out i h (by omega)
              · have d1 : decide ((at_ : Int) < (ms.length : Int)) = false := decide_eq_false (by omega)
                have d2 : decide (at_ < ms.length) = false := decide_eq_false hat
                go_wp2_with fail
                go_quiet (fail)
                go_wp2_with fail
                go_meet
                exact ⟨at_, rfl, by omega, HLT, ⟨fun h => absurd h hat⟩, ⟨_, drewN_add _ _ _⟩⟩
          case rest =>
            obtain ⟨at_, rfl, hat, HLT, HNL, HQ⟩ := hcut
            obtain ⟨q, rfl⟩ := HQ.out
            have HE4 := Sd.mk (HE3.out.drewN q)
            have HB1V : Sd ((W.drewN q).heap[w.heap.size]? = _) := ⟨HB1W.out⟩
            have HB2V : Sd ((W.drewN q).heap[w.heap.size + 1]? = _) := ⟨HB2W.out⟩
            have HB3V : Sd ((W.drewN q).heap[w.heap.size + 1 + 1]? = _) := ⟨HB3W.out⟩
            have HBKV : Sd ((W.drewN q).heap[wr.heap.size]? = _) := ⟨HBKW.out⟩
            have HBDV : Sd ((W.drewN q).heap[w2.heap.size]? = _) := ⟨HBDW.out⟩
            have HOV := Sd.mk (World.ownsRow.of_heap (w' := W.drewN q) HOW.out rfl)
            have HRV := Sd.mk (HRW.out.ext ((Ext.refl W).drewN q))
            have HPV := Sd.mk (HPW.out.ext ((Ext.refl W).drewN q))
            have hVs : w2.heap.size < (W.drewN q).heap.size := hWs
            clear HE3 HB1W HB2W HB3W HBKW HBDW HOW HRW HPW hWs fk f3 hg2 HQ
            generalize W.drewN q = V at *
            have fk := box_cell HBKV.out
            have fd := box_cell HBDV.out
            have f3 := box_cell HB3V.out
            go_upto_region 12 with (fail)
            clear fk fd f3
            have f3 : ∀ i o, (V.alloc o).cell? ⟨w.heap.size + 1 + 1, i, none⟩ = _ := fun i o => box_cell (box_keep HB3V.out o) i
            have fk : ∀ i o, (V.alloc o).cell? ⟨wr.heap.size, i, none⟩ = _ := fun i o => box_cell (box_keep HBKV.out o) i
            by_cases hat2 : at_ < ms.length
            · have d1 : decide ((at_ : Int) < (ms.length : Int)) = true := decide_eq_true (by omega)
              have d2 : decide (at_ < ms.length) = true := decide_eq_true hat2
              have fr : ∀ o, (V.alloc o).cell? ⟨g, at_ * 7, none⟩ = some (.string (ms[at_]).1) := fun o => by rw [(World.ownsRow.alloc HOV.out o).cellAt (at_ * 7) (by omega)]; exact HRV.out.name at_ hat2
              cases qe : ((ms[at_]).1.toList == (l[j]).1.toList)
              · have HNE : Sd (∀ h : at_ < ms.length, (ms[at_]).1 ≠ (l[j]).1) := ⟨fun h e => by rw [e] at qe; simp at qe⟩
                go_quiet (fail)
                have HEu := Sd.mk ((HE4.out.alloc (.cells #[.string (l[j]).1, .int .i64 k, .bool b, .int .i64 n, .int .u64 fl, .string s, .slice A2 len cp] 49)).drewN nq)
                have HB1u : Sd (((V.alloc (.cells #[.string (l[j]).1, .int .i64 k, .bool b, .int .i64 n, .int .u64 fl, .string s, .slice A2 len cp] 49)).drewN nq).heap[w.heap.size]? = _) := ⟨box_keep HB1V.out _⟩
                have HB2u : Sd (((V.alloc (.cells #[.string (l[j]).1, .int .i64 k, .bool b, .int .i64 n, .int .u64 fl, .string s, .slice A2 len cp] 49)).drewN nq).heap[w.heap.size + 1]? = _) := ⟨box_keep HB2V.out _⟩
                have HB3u : Sd (((V.alloc (.cells #[.string (l[j]).1, .int .i64 k, .bool b, .int .i64 n, .int .u64 fl, .string s, .slice A2 len cp] 49)).drewN nq).heap[w.heap.size + 1 + 1]? = _) := ⟨box_keep HB3V.out _⟩
                have HKu : Sd (((V.alloc (.cells #[.string (l[j]).1, .int .i64 k, .bool b, .int .i64 n, .int .u64 fl, .string s, .slice A2 len cp] 49)).drewN nq).heap[V.heap.size]? = _) := ⟨box_alloc V (.cells #[.string (l[j]).1, .int .i64 k, .bool b, .int .i64 n, .int .u64 fl, .string s, .slice A2 len cp] 49)⟩
                have HOu := Sd.mk (World.ownsRow.of_heap (w' := (V.alloc (.cells #[.string (l[j]).1, .int .i64 k, .bool b, .int .i64 n, .int .u64 fl, .string s, .slice A2 len cp] 49)).drewN nq) (World.ownsRow.alloc HOV.out (.cells #[.string (l[j]).1, .int .i64 k, .bool b, .int .i64 n, .int .u64 fl, .string s, .slice A2 len cp] 49)) rfl)
                have HRu := Sd.mk ((HRV.out.ext ((Ext.refl V).alloc (.cells #[.string (l[j]).1, .int .i64 k, .bool b, .int .i64 n, .int .u64 fl, .string s, .slice A2 len cp] 49))).ext ((Ext.refl _).drewN nq))
                have HPu := Sd.mk ((HPV.out.ext ((Ext.refl V).alloc (.cells #[.string (l[j]).1, .int .i64 k, .bool b, .int .i64 n, .int .u64 fl, .string s, .slice A2 len cp] 49))).ext ((Ext.refl _).drewN nq))
                have hUs : V.heap.size + 1 = ((V.alloc (.cells #[.string (l[j]).1, .int .i64 k, .bool b, .int .i64 n, .int .u64 fl, .string s, .slice A2 len cp] 49)).drewN nq).heap.size := by simp
                clear fr f3 fk
                generalize (V.alloc (.cells #[.string (l[j]).1, .int .i64 k, .bool b, .int .i64 n, .int .u64 fl, .string s, .slice A2 len cp] 49)).drewN nq = U at *
                have f10 := box_cell HKu.out
                have f3 := box_cell HB3u.out
                have f3A : ∀ i o, (U.alloc o).cell? ⟨w.heap.size + 1 + 1, i, none⟩ = _ := fun i o => box_cell (box_keep HB3u.out o) i
                go_upto_region 14 with (fail)
                have hrl := HRu.out.len
                have OW : Sd ((U.alloc (.cells #[.string (l[j]).1, .int .i64 k, .bool b, .int .i64 n, .int .u64 fl, .string s, .slice A2 len cp] 49)).ownsRow U.heap.size 49 7 (.slice (some ⟨U.heap.size, 0, none⟩) 1 1) 1 (#[.string (l[j]).1, .int .i64 k, .bool b, .int .i64 n, .int .u64 fl, .string s, .slice A2 len cp] : Array Value).toList) := ⟨World.ownsRow_lit U _ 1 (Nat.le_refl _) (by decide) rfl⟩
                have HN7 : Sd (∀ (W : World), W.heap = (U.alloc (.cells #[.string (l[j]).1, .int .i64 k, .bool b, .int .i64 n, .int .u64 fl, .string s, .slice A2 len cp] 49)).heap → ∀ a', (if cap = at_ then some (⟨g, 0, none⟩ : Addr) else some ⟨g, at_ * 7, none⟩) = some a' → ∀ q u, (xs.drop (at_ * 7))[q]? = some u → W.cell? (a'.add q) = some u) := ⟨fun W e a' ha q u hu => by
                  rw [List.getElem?_drop] at hu
                  have h2 := (List.getElem?_eq_some_iff.1 hu).1
                  rw [if_neg (by omega)] at ha
                  cases ha
                  have h1 := World.ownsRow.of_heap (w' := W) (World.ownsRow.alloc HOu.out (.cells #[.string (l[j]).1, .int .i64 k, .bool b, .int .i64 n, .int .u64 fl, .string s, .slice A2 len cp] 49)) e
                  have h3 := h1.cellAt (at_ * 7 + q) (by omega)
                  rw [hu] at h3
                  rw [add_at]
                  simpa using h3⟩
                have H1C : Sd (∀ u ∈ xs.drop (at_ * 7), u.oneCell' = true) := ⟨fun u hu => HRu.out.ones u (List.mem_of_mem_drop hu)⟩
                go_region_law (refine step_rest (by rfl) (.tmp 73) (.tmp 77) 29 rfl U.heap.size 49 i0 zkid 7 88 Tryz.underlying29 hi hz0 hz1 hz2 rfl (by decide) (.slice (some ⟨U.heap.size, 0, none⟩) 1 1) 1 (#[.string (l[j]).1, .int .i64 k, .bool b, .int .i64 n, .int .u64 fl, .string s, .slice A2 len cp] : Array Value).toList rfl (World.ownsRow.of_heap OW.out rfl) (by decide) (if cap = at_ then some ⟨g, 0, none⟩ else some ⟨g, at_ * 7, none⟩) (ms.length - at_) (cap - at_) (xs.drop (at_ * 7)) (by simp [Act.eval, Act.put]) (by simp; omega) (fun h => by split at h <;> cases h) (HN7.out _ rfl) H1C.out (by unfold maxLen; omega) (by omega) (by simp) ?_; intro g2 cap2 w4 hown hgrow; have HG4 := Sd.mk ((((Ext.refl U).alloc _).drewN 1).grown hgrow (Nat.le_refl _) (owns_base OW.out)); have HOWN := Sd.mk hown; clear hown hgrow)
                all_goals
                  clear f10 f3 f3A
                  have HB1w := Sd.mk (box_ext HB1u.out HG4.out)
                  have HB2w := Sd.mk (box_ext HB2u.out HG4.out)
                  have HB3w := Sd.mk (box_ext HB3u.out HG4.out)
                  have HOw := Sd.mk (owns_ext HOu.out HG4.out)
                  have f3 := box_cell HB3w.out
                  have HO8 : Sd (∀ b', some (⟨g, 0, none⟩ : Addr) = some b' → ∀ q u, (xs.take (at_ * 7))[q]? = some u → w4.cell? (b'.add q) = some u) := ⟨fun b' hb q u hu => by
                    cases hb
                    have h2 := (List.getElem?_eq_some_iff.1 hu).1
                    rw [List.length_take] at h2
                    rw [List.getElem?_take, if_pos (by omega)] at hu
                    have h3 := HOw.out.cellAt q (by omega)
                    rw [hu] at h3
                    rw [add_at]
                    simpa using h3⟩
                  have H9 : Sd (∀ q u, ((#[.string (l[j]).1, .int .i64 k, .bool b, .int .i64 n, .int .u64 fl, .string s, .slice A2 len cp] : Array Value).toList ++ xs.drop (at_ * 7))[q]? = some u → w4.cell? ((⟨g2, 0, none⟩ : Addr).add q) = some u) := ⟨fun q u hu => by
                    have h2 := (List.getElem?_eq_some_iff.1 hu).1
                    simp at h2
                    have h3 := HOWN.out.cellAt q (by omega)
                    rw [hu] at h3
                    rw [add_at]
                    simpa using h3⟩
                  have H10 : Sd (∀ u ∈ (#[.string (l[j]).1, .int .i64 k, .bool b, .int .i64 n, .int .u64 fl, .string s, .slice A2 len cp] : Array Value).toList ++ xs.drop (at_ * 7), u.oneCell' = true) := ⟨fun u hu => by
                    rcases List.mem_append.1 hu with hu | hu
                    · simp at hu
                      rcases hu with rfl | rfl | rfl | rfl | rfl | rfl | rfl <;> rfl
                    · exact H1C.out u hu⟩
                  go_wp2_with (at_builtin; go_loud (refine wpList_append_grows _ rfl (.tmp 83) (.tmp 84) 29 rfl 49 i0 zkid 7 88 Tryz.underlying29 hi hz0 hz1 hz2 rfl (by decide) (some ⟨g, 0, none⟩) at_ at_ (xs.take (at_ * 7)) (by simp [Act.eval, Act.put]) (fun h => by cases h) (by rw [List.length_take]; omega) HO8.out ⟨g2, 0, none⟩ (1 + (ms.length - at_)) cap2 _ (by simp [Act.eval, Act.put]) (by simp; omega) H9.out H10.out (by omega) (by unfold maxLen; omega) (by omega) ?_; intro v5 w5 hown hgrow; obtain ⟨g3, cap3, rfl, -, -⟩ := hown.form (by omega); have HG5 := Sd.mk ((Ext.refl w4).grown (v := .slice none 0 0) (B := w4.heap.size) hgrow (Nat.le_refl _) (fun k hk => by simp [Value.ownBlock] at hk)); have HOWN5 := Sd.mk hown; have f5 := box_cell (box_ext HB3w.out HG5.out); have fz5 := box_frozen (box_ext HB3w.out HG5.out); clear hown hgrow))
                  go_roundg (l.length - (j + 1))
                  case measure => omega
                  case rel =>
                    refine ⟨j + 1, ps ++ [((l[j]).1, p)], _, .slice (some ⟨g3, 0, none⟩) (at_ + (1 + (ms.length - at_))) cap3, by go_num, by omega, ⟨ObjI.put (B := w4.heap.size) (key := (l[j]).1) (p := p) ((HEu.out.trans HG4.out).trans HG5.out) (HG4.out.trans HG5.out) (box_ext HB1w.out HG5.out) (box_ext HB2w.out HG5.out) (box_ext HB3w.out HG5.out) HOWN5.out (Nat.le_trans HG4.out.size (Nat.le_refl _)) (by have := HG4.out.size; omega) HRu.out HPu.out (fun k hk => hk.1) (by omega) HLT.out (fun h => ⟨HNL.out h, HNE.out h⟩) HIN.out HT2.out⟩⟩
              · have fz := fun i o => (World.ownsRow.alloc HOV.out o).frozenAt i
                have hlx := HRV.out.len
                have hx : ∀ q, q < 7 → ∃ u, xs[at_ * 7 + q]? = some u := fun q hq => ⟨_, List.getElem?_eq_getElem (by omega)⟩
                obtain ⟨u1, hu1⟩ := hx 1 (by omega)
                have c1 : ∀ o, (V.alloc o).cell? ⟨g, at_ * 7 + 1, none⟩ = some u1 := fun o => by rw [(World.ownsRow.alloc HOV.out o).cellAt (at_ * 7 + 1) (by omega)]; exact hu1
                obtain ⟨u2, hu2⟩ := hx 2 (by omega)
                have c2 : ∀ o, (V.alloc o).cell? ⟨g, at_ * 7 + 2, none⟩ = some u2 := fun o => by rw [(World.ownsRow.alloc HOV.out o).cellAt (at_ * 7 + 2) (by omega)]; exact hu2
                obtain ⟨u3, hu3⟩ := hx 3 (by omega)
                have c3 : ∀ o, (V.alloc o).cell? ⟨g, at_ * 7 + 3, none⟩ = some u3 := fun o => by rw [(World.ownsRow.alloc HOV.out o).cellAt (at_ * 7 + 3) (by omega)]; exact hu3
                obtain ⟨u4, hu4⟩ := hx 4 (by omega)
                have c4 : ∀ o, (V.alloc o).cell? ⟨g, at_ * 7 + 4, none⟩ = some u4 := fun o => by rw [(World.ownsRow.alloc HOV.out o).cellAt (at_ * 7 + 4) (by omega)]; exact hu4
                obtain ⟨u5, hu5⟩ := hx 5 (by omega)
                have c5 : ∀ o, (V.alloc o).cell? ⟨g, at_ * 7 + 5, none⟩ = some u5 := fun o => by rw [(World.ownsRow.alloc HOV.out o).cellAt (at_ * 7 + 5) (by omega)]; exact hu5
                obtain ⟨u6, hu6⟩ := hx 6 (by omega)
                have c6 : ∀ o, (V.alloc o).cell? ⟨g, at_ * 7 + 6, none⟩ = some u6 := fun o => by rw [(World.ownsRow.alloc HOV.out o).cellAt (at_ * 7 + 6) (by omega)]; exact hu6
                have HQE := Sd.mk (toList_inj (eq_of_beq qe))
                clear hx hlx hu1 hu2 hu3 hu4 hu5 hu6
                go_quiet (fail)
                go_wp2_with fail
                go_roundg (l.length - (j + 1))
                case measure => omega
                case rel =>
                  refine ⟨j + 1, ps ++ [((l[j]).1, p)], _, .slice (some ⟨g, 0, none⟩) ms.length cap, by go_num, by omega, ⟨ObjI.rep (key := (l[j]).1) (p := p) (xs := xs) ((HE4.out.alloc _).drewN _) ?_ ?_ ?_ ?_ ?_ ?_ hat2 HLT.out (HNL.out hat2) HQE.out HIN.out HT2.out⟩⟩
                  · exact box_keep HB1V.out _
                  · exact box_keep HB2V.out _
                  · exact box_keep HB3V.out _
                  · exact World.ownsRow.of_heap (World.ownsRow.alloc HOV.out _) rfl
                  · exact (HRV.out.ext ((Ext.refl V).alloc _)).ext ((Ext.refl _).drewN _)
                  · exact (HPV.out.ext ((Ext.refl V).alloc _)).ext ((Ext.refl _).drewN _)
            · have d1 : decide ((at_ : Int) < (ms.length : Int)) = false := decide_eq_false (by omega)
              have d2 : decide (at_ < ms.length) = false := decide_eq_false hat2
              have HNE : Sd (∀ h : at_ < ms.length, (ms[at_]).1 ≠ (l[j]).1) := ⟨fun h => absurd h hat2⟩
              go_quiet (fail)
              have HEu := Sd.mk ((HE4.out.alloc (.cells #[.string (l[j]).1, .int .i64 k, .bool b, .int .i64 n, .int .u64 fl, .string s, .slice A2 len cp] 49)).drewN nq)
              have HB1u : Sd (((V.alloc (.cells #[.string (l[j]).1, .int .i64 k, .bool b, .int .i64 n, .int .u64 fl, .string s, .slice A2 len cp] 49)).drewN nq).heap[w.heap.size]? = _) := ⟨box_keep HB1V.out _⟩
              have HB2u : Sd (((V.alloc (.cells #[.string (l[j]).1, .int .i64 k, .bool b, .int .i64 n, .int .u64 fl, .string s, .slice A2 len cp] 49)).drewN nq).heap[w.heap.size + 1]? = _) := ⟨box_keep HB2V.out _⟩
              have HB3u : Sd (((V.alloc (.cells #[.string (l[j]).1, .int .i64 k, .bool b, .int .i64 n, .int .u64 fl, .string s, .slice A2 len cp] 49)).drewN nq).heap[w.heap.size + 1 + 1]? = _) := ⟨box_keep HB3V.out _⟩
              have HKu : Sd (((V.alloc (.cells #[.string (l[j]).1, .int .i64 k, .bool b, .int .i64 n, .int .u64 fl, .string s, .slice A2 len cp] 49)).drewN nq).heap[V.heap.size]? = _) := ⟨box_alloc V (.cells #[.string (l[j]).1, .int .i64 k, .bool b, .int .i64 n, .int .u64 fl, .string s, .slice A2 len cp] 49)⟩
              have HOu := Sd.mk (World.ownsRow.of_heap (w' := (V.alloc (.cells #[.string (l[j]).1, .int .i64 k, .bool b, .int .i64 n, .int .u64 fl, .string s, .slice A2 len cp] 49)).drewN nq) (World.ownsRow.alloc HOV.out (.cells #[.string (l[j]).1, .int .i64 k, .bool b, .int .i64 n, .int .u64 fl, .string s, .slice A2 len cp] 49)) rfl)
              have HRu := Sd.mk ((HRV.out.ext ((Ext.refl V).alloc (.cells #[.string (l[j]).1, .int .i64 k, .bool b, .int .i64 n, .int .u64 fl, .string s, .slice A2 len cp] 49))).ext ((Ext.refl _).drewN nq))
              have HPu := Sd.mk ((HPV.out.ext ((Ext.refl V).alloc (.cells #[.string (l[j]).1, .int .i64 k, .bool b, .int .i64 n, .int .u64 fl, .string s, .slice A2 len cp] 49))).ext ((Ext.refl _).drewN nq))
              have hUs : V.heap.size + 1 = ((V.alloc (.cells #[.string (l[j]).1, .int .i64 k, .bool b, .int .i64 n, .int .u64 fl, .string s, .slice A2 len cp] 49)).drewN nq).heap.size := by simp
              clear f3 fk
              generalize (V.alloc (.cells #[.string (l[j]).1, .int .i64 k, .bool b, .int .i64 n, .int .u64 fl, .string s, .slice A2 len cp] 49)).drewN nq = U at *
              have f10 := box_cell HKu.out
              have f3 := box_cell HB3u.out
              have f3A : ∀ i o, (U.alloc o).cell? ⟨w.heap.size + 1 + 1, i, none⟩ = _ := fun i o => box_cell (box_keep HB3u.out o) i
              go_upto_region 14 with (fail)
              have hrl := HRu.out.len
              have OW : Sd ((U.alloc (.cells #[.string (l[j]).1, .int .i64 k, .bool b, .int .i64 n, .int .u64 fl, .string s, .slice A2 len cp] 49)).ownsRow U.heap.size 49 7 (.slice (some ⟨U.heap.size, 0, none⟩) 1 1) 1 (#[.string (l[j]).1, .int .i64 k, .bool b, .int .i64 n, .int .u64 fl, .string s, .slice A2 len cp] : Array Value).toList) := ⟨World.ownsRow_lit U _ 1 (Nat.le_refl _) (by decide) rfl⟩
              have HN7 : Sd (∀ (W : World), W.heap = (U.alloc (.cells #[.string (l[j]).1, .int .i64 k, .bool b, .int .i64 n, .int .u64 fl, .string s, .slice A2 len cp] 49)).heap → ∀ a', (if cap = at_ then some (⟨g, 0, none⟩ : Addr) else some ⟨g, at_ * 7, none⟩) = some a' → ∀ q u, (xs.drop (at_ * 7))[q]? = some u → W.cell? (a'.add q) = some u) := ⟨fun W e a' ha q u hu => by
                rw [List.getElem?_drop] at hu
                have h2 := (List.getElem?_eq_some_iff.1 hu).1
                rw [if_neg (by omega)] at ha
                cases ha
                have h1 := World.ownsRow.of_heap (w' := W) (World.ownsRow.alloc HOu.out (.cells #[.string (l[j]).1, .int .i64 k, .bool b, .int .i64 n, .int .u64 fl, .string s, .slice A2 len cp] 49)) e
                have h3 := h1.cellAt (at_ * 7 + q) (by omega)
                rw [hu] at h3
                rw [add_at]
                simpa using h3⟩
              have H1C : Sd (∀ u ∈ xs.drop (at_ * 7), u.oneCell' = true) := ⟨fun u hu => HRu.out.ones u (List.mem_of_mem_drop hu)⟩
              go_region_law (refine step_rest (by rfl) (.tmp 73) (.tmp 77) 29 rfl U.heap.size 49 i0 zkid 7 88 Tryz.underlying29 hi hz0 hz1 hz2 rfl (by decide) (.slice (some ⟨U.heap.size, 0, none⟩) 1 1) 1 (#[.string (l[j]).1, .int .i64 k, .bool b, .int .i64 n, .int .u64 fl, .string s, .slice A2 len cp] : Array Value).toList rfl (World.ownsRow.of_heap OW.out rfl) (by decide) (if cap = at_ then some ⟨g, 0, none⟩ else some ⟨g, at_ * 7, none⟩) (ms.length - at_) (cap - at_) (xs.drop (at_ * 7)) (by simp [Act.eval, Act.put]) (by simp; omega) (fun h => by split at h <;> cases h) (HN7.out _ rfl) H1C.out (by unfold maxLen; omega) (by omega) (by simp) ?_; intro g2 cap2 w4 hown hgrow; have HG4 := Sd.mk ((((Ext.refl U).alloc _).drewN 1).grown hgrow (Nat.le_refl _) (owns_base OW.out)); have HOWN := Sd.mk hown; clear hown hgrow)
              all_goals
                clear f10 f3 f3A
                have HB1w := Sd.mk (box_ext HB1u.out HG4.out)
                have HB2w := Sd.mk (box_ext HB2u.out HG4.out)
                have HB3w := Sd.mk (box_ext HB3u.out HG4.out)
                have HOw := Sd.mk (owns_ext HOu.out HG4.out)
                have f3 := box_cell HB3w.out
                have HO8 : Sd (∀ b', some (⟨g, 0, none⟩ : Addr) = some b' → ∀ q u, (xs.take (at_ * 7))[q]? = some u → w4.cell? (b'.add q) = some u) := ⟨fun b' hb q u hu => by
                  cases hb
                  have h2 := (List.getElem?_eq_some_iff.1 hu).1
                  rw [List.length_take] at h2
                  rw [List.getElem?_take, if_pos (by omega)] at hu
                  have h3 := HOw.out.cellAt q (by omega)
                  rw [hu] at h3
                  rw [add_at]
                  simpa using h3⟩
                have H9 : Sd (∀ q u, ((#[.string (l[j]).1, .int .i64 k, .bool b, .int .i64 n, .int .u64 fl, .string s, .slice A2 len cp] : Array Value).toList ++ xs.drop (at_ * 7))[q]? = some u → w4.cell? ((⟨g2, 0, none⟩ : Addr).add q) = some u) := ⟨fun q u hu => by
                  have h2 := (List.getElem?_eq_some_iff.1 hu).1
                  simp at h2
                  have h3 := HOWN.out.cellAt q (by omega)
                  rw [hu] at h3
                  rw [add_at]
                  simpa using h3⟩
                have H10 : Sd (∀ u ∈ (#[.string (l[j]).1, .int .i64 k, .bool b, .int .i64 n, .int .u64 fl, .string s, .slice A2 len cp] : Array Value).toList ++ xs.drop (at_ * 7), u.oneCell' = true) := ⟨fun u hu => by
                  rcases List.mem_append.1 hu with hu | hu
                  · simp at hu
                    rcases hu with rfl | rfl | rfl | rfl | rfl | rfl | rfl <;> rfl
                  · exact H1C.out u hu⟩
                go_wp2_with (at_builtin; go_loud (refine wpList_append_grows _ rfl (.tmp 83) (.tmp 84) 29 rfl 49 i0 zkid 7 88 Tryz.underlying29 hi hz0 hz1 hz2 rfl (by decide) (some ⟨g, 0, none⟩) at_ at_ (xs.take (at_ * 7)) (by simp [Act.eval, Act.put]) (fun h => by cases h) (by rw [List.length_take]; omega) HO8.out ⟨g2, 0, none⟩ (1 + (ms.length - at_)) cap2 _ (by simp [Act.eval, Act.put]) (by simp; omega) H9.out H10.out (by omega) (by unfold maxLen; omega) (by omega) ?_; intro v5 w5 hown hgrow; obtain ⟨g3, cap3, rfl, -, -⟩ := hown.form (by omega); have HG5 := Sd.mk ((Ext.refl w4).grown (v := .slice none 0 0) (B := w4.heap.size) hgrow (Nat.le_refl _) (fun k hk => by simp [Value.ownBlock] at hk)); have HOWN5 := Sd.mk hown; have f5 := box_cell (box_ext HB3w.out HG5.out); have fz5 := box_frozen (box_ext HB3w.out HG5.out); clear hown hgrow))
                all_goals
                  go_roundg (l.length - (j + 1))
                  case measure => omega
                  case rel =>
                    refine ⟨j + 1, ps ++ [((l[j]).1, p)], _, .slice (some ⟨g3, 0, none⟩) (at_ + (1 + (ms.length - at_))) cap3, by go_num, by omega, ⟨ObjI.put (B := w4.heap.size) (key := (l[j]).1) (p := p) ((HEu.out.trans HG4.out).trans HG5.out) (HG4.out.trans HG5.out) (box_ext HB1w.out HG5.out) (box_ext HB2w.out HG5.out) (box_ext HB3w.out HG5.out) HOWN5.out (Nat.le_trans HG4.out.size (Nat.le_refl _)) (by have := HG4.out.size; omega) HRu.out HPu.out (fun k hk => hk.1) (by omega) HLT.out (fun h => ⟨HNL.out h, HNE.out h⟩) HIN.out HT2.out⟩⟩
    · have f2 := box_cell HB2.out
      have f3 := box_cell HB3.out
      have fz2 := box_frozen HB2.out
      have HGD := Sd.mk (gd9_some (r := r) (HT.out.all hj))
      have hlq : (insAll ps).length ≤ 1048576 := by have := insAll_len ps; have := HT.out.1; omega
      have HLQ := Sd.mk hlq
      clear hlq
      generalize insAll ps = qs at HGD HO HR HLQ
      obtain ⟨A', c', rfl, hAll⟩ := rows_done HO.out HR.out
      have HAL := Sd.mk hAll
      clear hAll HO HR
      go_wp2_with fail
      refine ob_fin (b := w.heap.size + 1) (k := 6) (bl := false) (n := 0) (f := 0) (s := ⟨#[]⟩) (A := A') (len := qs.length) (c := c') (ok := true) ?_ rfl rfl rfl ?_
      · exact six HB2.out _ _ _ _ _ _
      · exact svR_kids HGD.out (six_ext HE.out (by omega) _ _ _ _ _ _) HLQ.out (All.six HAL.out (fun k hk => ⟨by omega, by omega⟩) _ _ _ _ _ _)

end Go.Proofs.YtcfgjmdfpnfkjaaGreatDoor
