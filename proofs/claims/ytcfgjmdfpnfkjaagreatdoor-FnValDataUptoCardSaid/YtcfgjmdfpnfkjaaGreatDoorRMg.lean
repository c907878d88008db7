/- Parts of the proof of the statement that this folder hands in: lemmas and contracts (R, Dm, Ra, Rb). -/
import Derived.Test.YtcfgjmdfpnfkjaaGreatDoorQ
import Derived.Test.YtcfgjmdfpnfkjaaGreatDoorDl
import Derived.Test.YtcfgjmdfpnfkjaaGreatDoorQd
set_option linter.unusedSimpArgs false
set_option linter.unusedVariables false
set_option linter.unusedSimpArgs false
namespace Go.Proofs.YtcfgjmdfpnfkjaaGreatDoor
open Go.RowKit

set_option maxHeartbeats 16000000 in
set_option maxRecDepth 100000 in
theorem fits_row (k : Int) (r : ByteArray) (l : List (ByteArray × GV)) (ih : ∀ j (hj : j < l.length), FitC (l[j]).2) (A : Option Addr) (c : Nat) (d : Int) (w : World) (hd0 : -1 ≤ d) (hd1 : d ≤ 60) (hl : l.length ≤ 1048576)
    (hA : GV.All w A 0 l) (hr : r.size ≤ 1048576) (hk : k = 8 ∨ k = 9) : Calls Tryz.prog 5 #[.agg (gv k r A l.length c), .bool true, .int .i64 d] w (FitRes (.mk k r l) w) := by
  have HA := Sd.mk hA
  have IH := Sd.mk ih
  clear hA ih
  rcases hk with rfl | rfl
  · by_cases hd : 0 ≤ d
    · go_enter Tryz.func5, Tryz.ntmps5
      go_wp2_with fail
      go_loopg [73] l.length (fun g v73 wr => ∃ j : Nat, v73 = .int .i64 j ∧ g + j = l.length ∧ Sd (Ext w wr) ∧ Sd (wr.heap[w.heap.size]? = some (.cells (gv 8 r A l.length c) 24 (0, 0))) ∧ Sd (∀ i (h : i < l.length), i < j → GV.Fit (l[i]).2))
      case atStart => exact ⟨0, rfl, by omega, ⟨(Ext.refl _).alloc _⟩, ⟨box_alloc _ _⟩, ⟨fun i _ h => absurd h (by omega)⟩⟩
      case round =>
        obtain ⟨j, rfl, hg, HE, HB, HF⟩ := hrel
        have f := box_cell HB.out
        have fA : ∀ i o, (wr.alloc o).cell? ⟨w.heap.size, i, none⟩ = (gv 8 r A l.length c)[i]? := fun i o => box_cell (box_keep HB.out o) i
        by_cases hj : j < l.length
        · obtain ⟨ad, B, c', rfl, e0, hn, e1, e2, e3, hAt⟩ := (HA.out.ext HE.out).elem j hj
          have HAt := Sd.mk hAt
          clear hAt
          cases qn : nmB (l[j]).1
          · by_cases hs0 : 0 < (l[j]).1.size
            · obtain ⟨n1, n2⟩ := str_ne hs0
              go_wp2_with fail
              go_quiet ((go_at_call 10; exact Calls.quiet_of_same (isName_x _ _ hn)))
              go_wp2_with fail
              go_ret
              exact ⟨⟨false, rfl, fun h => by cases h⟩, (HE.out.alloc _).drewN _⟩
            · have n1 := str_nil hs0
              go_wp2_with fail
              have HB3 := Sd.mk (box_keep HB.out (.cells #[.string (l[j]).1, .int .i64 (l[j]).2.kind, .string (l[j]).2.raw, .slice B (l[j]).2.kids.length c'] 39 (0, 0)))
              have HX3 := Sd.mk (box_alloc wr (.cells #[.string (l[j]).1, .int .i64 (l[j]).2.kind, .string (l[j]).2.raw, .slice B (l[j]).2.kids.length c'] 39 (0, 0)))
              have HE3 := Sd.mk ((Ext.refl wr).alloc (.cells #[.string (l[j]).1, .int .i64 (l[j]).2.kind, .string (l[j]).2.raw, .slice B (l[j]).2.kids.length c'] 39 (0, 0)))
              go_upto_region 22 with (fail)
              clear f fA e0 e1 e2 e3
              generalize wr.alloc (.cells #[.string (l[j]).1, .int .i64 (l[j]).2.kind, .string (l[j]).2.raw, .slice B (l[j]).2.kids.length c'] 39 (0, 0)) = wy at HB3 HX3 HE3
              have f := box_cell HB3.out
              have f2 := box_cell HX3.out
              go_still_tail 23, (by kernel_rfl)
              still_call (isName_x _ _ hn)
              repeat still_step
              refine wpStill_nil ?_
              change wpList _ _ _ _ _ wy.drew
              go_wp2_with fail
              refine (IH.out j hj (d - 1) _ _ (by omega) (by omega) ((HAt.out.ext HE3.out).ext (Ext.drewN (Ext.refl wy) 1))).mono ?_
              rintro e w5 ⟨⟨bq, rfl, hfit⟩, he⟩
              have HFT := Sd.mk hfit
              have HE5 := Sd.mk (((HE.out.trans HE3.out).drewN 1).trans he)
              have HB5 := Sd.mk (box_ext HB3.out ((Ext.drewN (Ext.refl wy) 1).trans he))
              clear hfit he f f2
              cases bq
              · go_wp2_with fail
                go_ret
                exact ⟨⟨false, rfl, fun h => by cases h⟩, HE5.out⟩
              · go_wp2_with fail
                go_roundg (l.length - (j + 1))
                case measure => omega
                case rel => exact ⟨j + 1, by go_num, by omega, HE5, HB5, ⟨fun i hi h2 => if e : i = j then by subst e; exact HFT.out (by simp) else HF.out i hi (by omega)⟩⟩
          · go_wp2_with fail
            go_quiet ((go_at_call 10; exact Calls.quiet_of_same (isName_x _ _ hn)))
            go_wp2_with fail
            go_ret
            exact ⟨⟨false, rfl, fun h => by cases h⟩, (HE.out.alloc _).drewN _⟩
        · go_wp2_with fail
          go_ret
          exact ⟨⟨_, rfl, fun _ => .mk _ _ _ (by omega) (by omega) (by omega) (fun h => absurd h (by omega)) (fun h => absurd h (by omega)) fun i hi => HF.out i hi (by omega)⟩, HE.out⟩
    · go_enter Tryz.func5, Tryz.ntmps5
      go_wp2_with fail
      go_ret
      exact ⟨⟨false, rfl, fun h => by cases h⟩, (Ext.refl _).alloc _⟩
  · by_cases hd : 0 ≤ d
    · go_enter Tryz.func5, Tryz.ntmps5
      go_wp2_with fail
      go_loopg [73] l.length (fun g v73 wr => ∃ j : Nat, v73 = .int .i64 j ∧ g + j = l.length ∧ Sd (Ext w wr) ∧ Sd (wr.heap[w.heap.size]? = some (.cells (gv 9 r A l.length c) 24 (0, 0))) ∧ Sd (∀ i (h : i < l.length), i < j → GV.Fit (l[i]).2))
      case atStart => exact ⟨0, rfl, by omega, ⟨(Ext.refl _).alloc _⟩, ⟨box_alloc _ _⟩, ⟨fun i _ h => absurd h (by omega)⟩⟩
      case round =>
        obtain ⟨j, rfl, hg, HE, HB, HF⟩ := hrel
        have f := box_cell HB.out
        have fA : ∀ i o, (wr.alloc o).cell? ⟨w.heap.size, i, none⟩ = (gv 9 r A l.length c)[i]? := fun i o => box_cell (box_keep HB.out o) i
        by_cases hj : j < l.length
        · obtain ⟨ad, B, c', rfl, e0, hn, e1, e2, e3, hAt⟩ := (HA.out.ext HE.out).elem j hj
          have HAt := Sd.mk hAt
          clear hAt
          cases qn : nmB (l[j]).1
          · go_wp2_with fail
            go_quiet ((go_at_call 10; exact Calls.quiet_of_same (isName_x _ _ hn)))
            go_wp2_with fail
            go_ret
            exact ⟨⟨false, rfl, fun h => by cases h⟩, (HE.out.alloc _).drewN _⟩
          · go_wp2_with fail
            have HB3 := Sd.mk (box_keep HB.out (.cells #[.string (l[j]).1, .int .i64 (l[j]).2.kind, .string (l[j]).2.raw, .slice B (l[j]).2.kids.length c'] 39 (0, 0)))
            have HX3 := Sd.mk (box_alloc wr (.cells #[.string (l[j]).1, .int .i64 (l[j]).2.kind, .string (l[j]).2.raw, .slice B (l[j]).2.kids.length c'] 39 (0, 0)))
            have HE3 := Sd.mk ((Ext.refl wr).alloc (.cells #[.string (l[j]).1, .int .i64 (l[j]).2.kind, .string (l[j]).2.raw, .slice B (l[j]).2.kids.length c'] 39 (0, 0)))
            go_upto_region 22 with (fail)
            clear f fA e0 e1 e2 e3
            generalize wr.alloc (.cells #[.string (l[j]).1, .int .i64 (l[j]).2.kind, .string (l[j]).2.raw, .slice B (l[j]).2.kids.length c'] 39 (0, 0)) = wy at HB3 HX3 HE3
            have f := box_cell HB3.out
            have f2 := box_cell HX3.out
            go_still_tail 23, (by kernel_rfl)
            still_call (isName_x _ _ hn)
            repeat still_step
            refine wpStill_nil ?_
            change wpList _ _ _ _ _ wy.drew
            go_wp2_with fail
            refine (IH.out j hj (d - 1) _ _ (by omega) (by omega) ((HAt.out.ext HE3.out).ext (Ext.drewN (Ext.refl wy) 1))).mono ?_
            rintro e w5 ⟨⟨bq, rfl, hfit⟩, he⟩
            have HFT := Sd.mk hfit
            have HE5 := Sd.mk (((HE.out.trans HE3.out).drewN 1).trans he)
            have HB5 := Sd.mk (box_ext HB3.out ((Ext.drewN (Ext.refl wy) 1).trans he))
            clear hfit he f f2
            cases bq
            · go_wp2_with fail
              go_ret
              exact ⟨⟨false, rfl, fun h => by cases h⟩, HE5.out⟩
            · go_wp2_with fail
              go_roundg (l.length - (j + 1))
              case measure => omega
              case rel => exact ⟨j + 1, by go_num, by omega, HE5, HB5, ⟨fun i hi h2 => if e : i = j then by subst e; exact HFT.out (by simp) else HF.out i hi (by omega)⟩⟩
        · go_wp2_with fail
          go_ret
          exact ⟨⟨_, rfl, fun _ => .mk _ _ _ (by omega) (by omega) (by omega) (fun h => absurd h (by omega)) (fun h => absurd h (by omega)) fun i hi => HF.out i hi (by omega)⟩, HE.out⟩
    · go_enter Tryz.func5, Tryz.ntmps5
      go_wp2_with fail
      go_ret
      exact ⟨⟨false, rfl, fun h => by cases h⟩, (Ext.refl _).alloc _⟩

set_option maxHeartbeats 4000000 in
set_option maxRecDepth 100000 in
theorem fits_c (v : GV) : FitC v := by
  induction v using GV.ind with | h k r l ih
  · intro d cs w hd0 hd1 hv
    simp only [GV.At] at hv
    obtain ⟨A, c, rfl, hl, hA, hr⟩ := hv
    by_cases hk : k = 8 ∨ k = 9
    · exact fits_row k r l ih A c d w hd0 hd1 hl hA hr hk
    · by_cases hneg : d < 0
      · clear ih hA
        go_enter Tryz.func5, Tryz.ntmps5
        go_wp2_with fail
        go_ret
        exact ⟨⟨false, rfl, fun h => by cases h⟩, (Ext.refl _).alloc _⟩
      · by_cases hk8 : k < 8
        · by_cases hl0 : 0 < l.length
          · clear ih hA
            go_enter Tryz.func5, Tryz.ntmps5
            go_wp2_with fail
            go_ret
            exact ⟨⟨false, rfl, fun h => by cases h⟩, (Ext.refl _).alloc _⟩
          · exact fits_leaf k r l A c d w (by omega) hl0 hr hk8
        · have hk10 : 10 ≤ k := by omega
          clear ih hA hk
          have e0 : (k == 0) = false := by simp; omega
          have e1 : (k == 1) = false := by simp; omega
          have e2 : (k == 2) = false := by simp; omega
          have e3 : (k == 3) = false := by simp; omega
          have e4 : (k == 4) = false := by simp; omega
          have e5 : (k == 5) = false := by simp; omega
          have e6 : (k == 6) = false := by simp; omega
          have e7 : (k == 7) = false := by simp; omega
          have e8 : (k == 8) = false := by simp; omega
          have e9 : (k == 9) = false := by simp; omega
          go_enter Tryz.func5, Tryz.ntmps5
          go_wp2_with fail
          go_ret
          exact ⟨⟨false, rfl, fun h => by cases h⟩, (Ext.refl _).alloc _⟩

end Go.Proofs.YtcfgjmdfpnfkjaaGreatDoor
set_option linter.unusedVariables false
set_option linter.unusedSimpArgs false
namespace Go.Proofs.YtcfgjmdfpnfkjaaGreatDoor
open Go.RowKit Pf

/-- The maker at every value. -/
theorem val_c (v : GV) : ValC v := by
  induction v using GV.ind with | h k r l ih
  intro w0 w m cs hv hf he hm0 hm
  simp only [GV.At] at hv
  obtain ⟨A, c, rfl, hl, hA, hr⟩ := hv
  cases hf with | mk _ _ _ h1 h9 h5 hn h8 hk =>
  exact val_row k r l ih A c w0 w m hl hA hk he hm0 hm h1 h9

end Go.Proofs.YtcfgjmdfpnfkjaaGreatDoor
set_option linter.unusedVariables false
set_option linter.unusedSimpArgs false
namespace Go.Proofs.YtcfgjmdfpnfkjaaGreatDoor
open Go.RowKit Pf

/-- dataOf at every any that is read as data. -/
theorem do_c (p : PD) : DoC p := by
  induction p using PD.ind with | h k b n f s l ih
  intro w N x hx
  cases hx with
  | nul => exact do_nul w
  | bool b => exact do_bool b w
  | int n => exact do_int n w
  | flt f => exact do_flt f w
  | text s => exact do_text s w
  | list l A c x hl hc hx => exact do_list l (fun j hj => by have := ih j (by simpa using hj); simpa using this) A c x w N hl hc hx
  | obj l r es clock q hl hr hN hb F hk hx hn => exact do_map l ih r es clock q w N hl hr hb F hk hx hn

theorem new_at (w : World) (m : Nat) (h : w.heap.size + 1 = m) : Calls Tryz.prog 19 #[] w (fun e w' => e = .returned (.pointer (some ⟨m, 0, none⟩)) ∧ MAt w' m ∧ Ext w w') := by
  subst h; exact new_c w
theorem Ext.grownM {a b c : World} {m : Nat} (h : Ext a b) (hg : b.grownBy c (some m)) (hm : a.heap.size ≤ m) : Ext a c :=
  ⟨hg.os.trans h.os, hg.tape.trans h.tape, hg.output.trans h.output, Nat.le_trans h.size hg.size, fun k hk => (hg.block k (Nat.lt_of_lt_of_le hk h.size) (by simp; omega)).trans (h.block k hk)⟩

set_option maxRecDepth 100000 in
set_option maxHeartbeats 8000000 in
/-- impl.ValData at every value that fits. -/
theorem iv_c (HS : Sd Shelf) (L : LayP) (v : GV) (cs : List Value) (w : World) (hL : Lay L w) (hw : 13 ≤ w.heap.size) (hv : v.At w cs) (hf : v.Fit) : Calls Tryz.prog 8 #[.agg cs.toArray] w (SvR L v w) := by
  have VC := Sd.mk (val_c v)
  have VA := Sd.mk (va_c HS L v)
  have HV := Sd.mk hv
  have HF := Sd.mk hf
  have HL := Sd.mk hL
  have HW := Sd.mk hw
  obtain ⟨k, r, A, len, c, rfl⟩ : ∃ k r A len c, cs = (gv k r A len c).toList := by
    obtain ⟨k, r, l⟩ := v
    simp only [GV.At] at hv
    obtain ⟨A, c, rfl, -, -, -⟩ := hv
    exact ⟨k, r, A, _, c, rfl⟩
  clear hv hf hL hw
  go_enter Tryz.func8, Tryz.ntmps8
  go_wp2_with fail
  have HE0 := Sd.mk (((Ext.refl w).alloc (.cells (gv k r A len c) 24)).alloc (.cells z31 31))
  have HB0 := Sd.mk (box_keep (box_alloc w (.cells (gv k r A len c) 24)) (.cells z31 31))
  have HR0 := Sd.mk (box_alloc2 w (.cells (gv k r A len c) 24) (.cells z31 31))
  refine (new_at _ (w.heap.size + 3) (by simp)).mono ?_
  rintro e w1 ⟨rfl, hm, he⟩
  have HM := Sd.mk hm
  have HE1 := Sd.mk (HE0.out.trans he)
  have HB1 := Sd.mk (box_ext HB0.out he)
  have HR1 := Sd.mk (box_ext HR0.out he)
  have f0 := box_cell HB1.out
  clear hm he HB0 HR0
  go_wp2_with fail
  refine (VC.out w w1 (w.heap.size + 3) _ HV.out HF.out HE1.out (by omega) HM.out).mono ?_
  rintro e w2 ⟨q, rfl, hm2, hg2, hva⟩
  have HM2 := Sd.mk hm2
  have HE2 := Sd.mk (HE1.out.grownM hg2 (by omega))
  have HVA := Sd.mk hva
  have HR2 : Sd (w2.heap[w.heap.size + 1]? = _) := ⟨(hg2.block _ (heap_lt HR1.out) (by simp)).trans HR1.out⟩
  obtain ⟨sp, nn, hmb⟩ := hm2
  have fm := box_cell hmb
  clear hg2 hva f0 hmb HE1 HM
  go_wp2_with fail
  refine (VA.out w w2 _ _ q HV.out HF.out HVA.out (HL.out.ext HE2.out) (Nat.le_trans HW.out HE2.out.size)).mono ?_
  rintro e w3 ⟨x, ev, rfl, he3, hev, hx⟩
  have HE3 := Sd.mk (HE2.out.trans he3)
  have HR3 := Sd.mk (box_ext HR2.out he3)
  have HX := Sd.mk hx
  have f3 := box_cell HR3.out
  have fz3 := box_frozen HR3.out
  clear he3 hx fm
  rcases hev with ⟨h1, rfl⟩ | ⟨h1, y, rfl⟩
  · obtain ⟨p, hp⟩ : ∃ p, gd L v = some p := by
      cases h : gd L v with
      | none => rw [h] at h1; cases h1
      | some p => exact ⟨p, rfl⟩
    have HP := Sd.mk hp
    have HXP := Sd.mk (HX.out p hp)
    clear h1 hp
    go_wp2_with fail
    refine (do_c p w3 _ x HXP.out).mono ?_
    rintro e w4 ⟨cs4, rfl, he4, hp4⟩
    obtain ⟨k4, b4, n4, fl4, s4, A4, len4, c4, rfl⟩ := hp4.form
    have HE4 := Sd.mk (HE3.out.trans he4)
    have HR4 := Sd.mk (box_ext HR3.out he4)
    have HP4 : Sd (p.At w4 (fun k => w.heap.size + 2 ≤ k) (dv k4 b4 n4 fl4 s4 A4 len4 c4).toList) := ⟨hp4.keep fun k hk _ => ⟨rfl, by have := heap_lt HR3.out; have := HE3.out.size; omega⟩⟩
    clear f3 fz3 he4 hp4
    have f4 := box_cell HR4.out
    have fz4 := box_frozen HR4.out
    go_wp2_with fail
    have HB4 := Sd.mk (six HR4.out (.int .i64 k4) (.bool b4) (.int .i64 n4) (.int .u64 fl4) (.string s4) (.slice A4 len4 c4))
    have fc := box_cell HB4.out
    refine bodyPost_ret (v := .tuple #[.agg (dv k4 b4 n4 fl4 s4 A4 len4 c4), .bool true]) (by simp [results, Tryz.results8, go_sem, fc]) rfl ?_
    refine ⟨_, _, _, _, _, _, _, _, true, rfl, six_ext HE4.out (by omega) _ _ _ _ _ _, by rw [HP.out]; rfl, fun p' hp' => ?_⟩
    rw [HP.out] at hp'
    cases hp'
    exact (HP4.out.drop6 (fun q hq => by omega)).keep fun q hq _ => ⟨rfl, by omega⟩
  · have HN : Sd (gd L v = none) := ⟨by cases h : gd L v with | none => rfl | some p => rw [h] at h1; cases h1⟩
    clear h1
    go_wp2_with fail
    have HB4 := Sd.mk (six HR3.out (.int .i64 0) (.bool false) (.int .i64 0) (.int .u64 0) (.string ⟨#[]⟩) (.slice none 0 0))
    have fc := box_cell HB4.out
    refine bodyPost_ret (v := .tuple #[.agg (dv 0 false 0 0 ⟨#[]⟩ none 0 0), .bool false]) (by simp [results, Tryz.results8, go_sem, fc]) rfl ?_
    exact svR_none HN.out (six_ext HE3.out (by omega) _ _ _ _ _ _) _ _ _ _ _ _ _ _

end Go.Proofs.YtcfgjmdfpnfkjaaGreatDoor
set_option linter.unusedVariables false
set_option linter.unusedSimpArgs false
namespace Go.Proofs.YtcfgjmdfpnfkjaaGreatDoor
open Go.RowKit Pf

set_option maxRecDepth 100000 in
set_option maxHeartbeats 8000000 in
/-- The law answers true at every value. -/
theorem law_c (HS : Sd Shelf) (L : LayP) (v : GV) (cs : List Value) (w : World) (hL : Lay L w) (hw : 13 ≤ w.heap.size) (hv : v.At w cs) : Calls Tryz.prog 3 #[.agg cs.toArray] w fun e w' => e = .returned (.bool true) ∧ Ext w w' := by
  have FC := Sd.mk (fits_c v)
  have WC := Sd.mk (wordy_c v)
  have SC := Sd.mk (sv_c HS L v)
  have IC := Sd.mk (iv_c HS L v)
  have HV := Sd.mk hv
  have HL := Sd.mk hL
  have HW := Sd.mk hw
  obtain ⟨k, r, A, len, c, hcs, hlen, hr⟩ : ∃ k r A len c, cs = (gv k r A len c).toList ∧ len ≤ 1048576 ∧ r.size ≤ 1048576 := by
    obtain ⟨k, r, l⟩ := v
    simp only [GV.At] at hv
    obtain ⟨A, c, rfl, hl, -, hr⟩ := hv
    exact ⟨k, r, A, _, c, rfl, hl, hr⟩
  subst hcs
  clear hv hL hw
  go_enter Tryz.func3, Tryz.ntmps3
  go_wp2_with fail
  have HE0 := Sd.mk ((Ext.refl w).alloc (.cells (gv k r A len c) 24))
  have HB0 := Sd.mk (box_alloc w (.cells (gv k r A len c) 24))
  refine (zz_c k r A len c _ hr hlen).mono ?_
  rintro e w1 ⟨rfl, he⟩
  have HE1 := Sd.mk (HE0.out.trans he)
  have HB1 := Sd.mk (box_ext HB0.out he)
  have f1 := box_cell HB1.out
  clear he HE0 HB0
  go_wp2_with fail
  refine (FC.out 60 _ w1 (by decide) (by decide) (HV.out.ext HE1.out)).mono ?_
  rintro e w2 ⟨⟨b, rfl, hb⟩, he⟩
  have HE2 := Sd.mk (HE1.out.trans he)
  have HB2 := Sd.mk (box_ext HB1.out he)
  have HF := Sd.mk hb
  clear he f1 hb
  have f2 := box_cell HB2.out
  cases b
  · go_wp2_with fail
    go_ret
    exact ⟨rfl, HE2.out⟩
  have HFIT := Sd.mk (HF.out rfl)
  clear HF
  go_wp2_with fail
  refine (WC.out _ w2 (HV.out.ext HE2.out)).mono ?_
  rintro e w3 ⟨⟨b, rfl⟩, he⟩
  have HE3 := Sd.mk (HE2.out.trans he)
  have HB3 := Sd.mk (box_ext HB2.out he)
  clear he f2
  have f3 := box_cell HB3.out
  cases b
  rotate_left
  · go_wp2_with fail
    go_ret
    exact ⟨rfl, HE3.out⟩
  go_wp2_with fail
  refine (SC.out _ w3 (HL.out.ext HE3.out) (Nat.le_trans HW.out HE3.out.size) (HV.out.ext HE3.out) HFIT.out).mono ?_
  rintro e w4 ⟨k4, b4, n4, fl4, s4, A4, len4, c4, ok4, rfl, he, hok, hp⟩
  have HE4 := Sd.mk (HE3.out.trans he)
  have HB4 := Sd.mk (box_ext HB3.out he)
  have HP4 := Sd.mk hp
  clear he f3 hp
  have f4 := box_cell HB4.out
  have f4A : ∀ i o, (w4.alloc o).cell? ⟨w.heap.size, i, none⟩ = _ := fun i o => box_cell (box_keep HB4.out o) i
  go_wp2_with fail
  have HE4' := Sd.mk (HE4.out.alloc (.cells (dv k4 b4 n4 fl4 s4 A4 len4 c4) 31))
  have HX := Sd.mk ((Ext.refl w4).alloc (.cells (dv k4 b4 n4 fl4 s4 A4 len4 c4) 31))
  have HD := Sd.mk (box_alloc w4 (.cells (dv k4 b4 n4 fl4 s4 A4 len4 c4) 31))
  refine (IC.out _ _ (HL.out.ext HE4'.out) (Nat.le_trans HW.out HE4'.out.size) (HV.out.ext HE4'.out) HFIT.out).mono ?_
  rintro e w5 ⟨k5, b5, n5, fl5, s5, A5, len5, c5, ok5, rfl, he, hok5, hp⟩
  have HE5 := Sd.mk (HE4'.out.trans he)
  have HX5 := Sd.mk (HX.out.trans he)
  have HD5 := Sd.mk (box_ext HD.out he)
  have HP5 := Sd.mk hp
  clear he hp f4 f4A HE4' HX HD
  have f5 := box_cell HD5.out
  have f5A : ∀ i o, (w5.alloc o).cell? ⟨w4.heap.size, i, none⟩ = _ := fun i o => box_cell (box_keep HD5.out o) i
  cases hg : gd L v with
  | none =>
    rw [hg] at hok hok5
    simp only [Option.isSome_none] at hok hok5
    subst hok hok5
    clear hg
    go_wp2_with fail
    go_ret
    exact ⟨rfl, HE5.out.alloc _⟩
  | some p =>
    rw [hg] at hok hok5
    simp only [Option.isSome_some] at hok hok5
    subst hok hok5
    have HA := Sd.mk ((HP4.out p hg).ext (HX5.out.alloc (.cells (dv k5 b5 n5 fl5 s5 A5 len5 c5) 31)))
    have HB := Sd.mk ((HP5.out p hg).ext ((Ext.refl w5).alloc (.cells (dv k5 b5 n5 fl5 s5 A5 len5 c5) 31)))
    clear hg
    go_wp2_with fail
    refine (same_c p _ _ _ _ _ HB.out HA.out).mono ?_
    rintro e w6 ⟨rfl, he⟩
    have HE6 := Sd.mk ((HE5.out.alloc _).trans he)
    clear he
    go_wp2_with fail
    go_ret
    exact ⟨rfl, HE6.out⟩

end Go.Proofs.YtcfgjmdfpnfkjaaGreatDoor
