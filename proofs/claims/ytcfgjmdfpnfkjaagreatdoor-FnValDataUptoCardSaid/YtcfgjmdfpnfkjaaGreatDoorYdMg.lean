/- Parts of the proof of the statement that this folder hands in: lemmas and contracts (Yd, P, Ye, Da, Db, Mb, Dc, Dd, De, Dh). -/
import Derived.Test.YtcfgjmdfpnfkjaaGreatDoorYc
import Derived.Test.YtcfgjmdfpnfkjaaGreatDoorZe
import Derived.Test.YtcfgjmdfpnfkjaaGreatDoorU
import Derived.Test.YtcfgjmdfpnfkjaaGreatDoorN
import Derived.Test.YtcfgjmdfpnfkjaaGreatDoorO
import Derived.Test.YtcfgjmdfpnfkjaaGreatDoorMa
import Derived.Deep.RegionHeld3
import Derived.BigRegion
import Derived.Outline
import Derived.Deep.AppendLies
import Derived.ArgAppend
import Derived.Laws.OwnMore
import Derived.Deep.RegionLawGrows
import Derived.BigQuiet
set_option linter.unusedSimpArgs false
set_option linter.unusedVariables false
set_option linter.unusedSimpArgs false
namespace Go.Proofs.YtcfgjmdfpnfkjaaGreatDoor
open Go.RowKit Pf

theorem loopF_le {s : ByteArray} : ∀ (f i : Nat) (x : RF), i ≤ s.size → (loopF s f i x).1 ≤ s.size
  | 0, i, x, h => h
  | f + 1, i, x, h => by
    unfold loopF
    split
    · exact h
    · split
      · split
        · exact h
        · exact loopF_le f _ _ (by omega)
      · split
        · exact loopF_le f _ _ (by omega)
        · exact h
theorem expF_le {s : ByteArray} : ∀ (f i e : Nat), i ≤ s.size → (expF s f i e).1 ≤ s.size
  | 0, i, x, h => h
  | f + 1, i, x, h => by
    unfold expF
    split
    · exact h
    · split
      · exact expF_le f _ _ (by omega)
      · exact h
def Rng (m : Int) : Prop := 0 ≤ m ∧ m ≤ 18446744073709551615
theorem digF_rng {c : Nat} {x : RF} (h : Rng x.m) : Rng (digF c x).m := by
  unfold digF
  split
  · exact h
  · split
    · exact u64_rng _
    · exact h
theorem loopF_rng {s : ByteArray} : ∀ (f i : Nat) (x : RF), Rng x.m → Rng (loopF s f i x).2.m
  | 0, i, x, h => h
  | f + 1, i, x, h => by
    unfold loopF
    split
    · exact h
    · split
      · split
        · exact h
        · exact loopF_rng f _ _ h
      · split
        · exact loopF_rng f _ _ (digF_rng h)
        · exact h
theorem rdE2_i {s : ByteArray} {x : RF} {ng : Bool} {dp sg : Int} {i : Nat} (h : i ≤ s.size) : (rdE2 s x ng dp sg i).i ≤ s.size ∧ (rdE2 s x ng dp sg i).m = x.m := by
  unfold rdE2
  split
  · exact ⟨h, rfl⟩
  · exact ⟨expF_le _ _ _ h, rfl⟩
theorem rdE1_i {s : ByteArray} {x : RF} {ng : Bool} {dp : Int} {i : Nat} (h : i ≤ s.size) : (rdE1 s x ng dp i).i ≤ s.size ∧ (rdE1 s x ng dp i).m = x.m := by
  unfold rdE1
  split
  · exact ⟨h, rfl⟩
  · split
    · exact rdE2_i (by omega)
    · split
      · exact rdE2_i (by omega)
      · exact rdE2_i h
theorem rd2_i {s : ByteArray} {x : RF} {ng : Bool} {i : Nat} (h : i ≤ s.size) : (rd2 s x ng i).i ≤ s.size ∧ (rd2 s x ng i).m = x.m := by
  unfold rd2 rd3
  split
  · split
    · exact rdE1_i (by omega)
    · exact ⟨h, rfl⟩
  · exact ⟨h, rfl⟩
theorem rd1_i {s : ByteArray} {ng : Bool} {i : Nat} (h : i ≤ s.size) : (rd1 s ng i).i ≤ s.size ∧ Rng (rd1 s ng i).m := by
  unfold rd1
  obtain ⟨a, b⟩ := rd2_i (x := (loopF s s.size i rf0).2) (ng := ng) (loopF_le s.size i rf0 h)
  exact ⟨a, by rw [b]; exact loopF_rng _ _ _ ⟨by decide, by decide⟩⟩
theorem rd_i (s : ByteArray) : (rd s).i ≤ s.size ∧ Rng (rd s).m := by
  unfold rd
  split
  · exact ⟨Nat.zero_le _, by decide, by decide⟩
  · split
    · exact rd1_i (by omega)
    · split
      · exact rd1_i (by omega)
      · exact rd1_i (by omega)

def sgF (ng : Bool) : Int := IntKind.u64.wrap (b2F ng * 9223372036854775808)
/-- What atof64 hands back: hung on the text alone. -/
def AtC (L : LayP) (s : ByteArray) (f : Nat) (n : Nat) (k : Int) : Prop := ∀ (w : World), Lay L w → 13 ≤ w.heap.size → Calls Tryz.prog 62 #[.string s] w fun en w' => en = .returned (.tuple #[.float .f64 f, .int .i64 n, err k]) ∧ Ext w w'

theorem pkF_k (m e : Int) : (pkF m e).2 = 0 ∨ (pkF m e).2 = 1 ∨ (pkF m e).2 = 2 := by
  unfold pkF
  split
  · exact Or.inl rfl
  · split
    · exact Or.inr (Or.inl rfl)
    · exact Or.inl rfl
theorem pfF_k (T : Nat → Int) (d : Int) (q : Nat) (sg : Int) : (pfF T d q sg).2 = 0 ∨ (pfF T d q sg).2 = 1 ∨ (pfF T d q sg).2 = 2 := by
  unfold pfF pfS
  split
  · exact Or.inl rfl
  · exact pkF_k _ _
theorem digG_gi {c : Nat} {d : Dec} (h : GI d) (hc : dgN c = true) : GI (digG c d) := by
  have hd : Dg c := by simp [dgN] at hc; exact hc
  unfold digG
  split
  · exact h.dp _
  · split
    · exact h.put hd ‹_› ‹_›
    · exact h.tr _
theorem loopG_gi {s : ByteArray} : ∀ (f i : Nat) (dot dig : Bool) (d : Dec), GI d → ∀ r, loopG s f i dot dig d = some r → GI r.2.2.2
  | 0, i, dot, dig, d, h, r, hr => by cases hr; exact h
  | f + 1, i, dot, dig, d, h, r, hr => by
    unfold loopG at hr
    split at hr
    · cases hr; exact h
    · split at hr
      · split at hr
        · cases hr
        · exact loopG_gi f _ _ _ _ (h.dp _) r hr
      · split at hr
        · exact loopG_gi f _ _ _ _ (digG_gi h ‹_›) r hr
        · cases hr; exact h
theorem stEnd_gi {s : ByteArray} {d d' : Dec} {i : Nat} (h : GI d) (hr : stEnd s d i = some d') : GI d' := by
  unfold stEnd at hr
  split at hr
  · cases hr; exact h
  · cases hr
theorem stE2_gi {s : ByteArray} {d d' : Dec} {sg : Int} {i : Nat} (h : GI d) (hr : stE2 s d sg i = some d') : GI d' := by
  unfold stE2 at hr
  split at hr
  · cases hr
  · exact stEnd_gi (h.dp _) hr
theorem st3_gi {s : ByteArray} {d d' : Dec} {i : Nat} (h : GI d) (hr : st3 s d i = some d') : GI d' := by
  unfold st3 at hr
  split at hr
  · unfold stE1 at hr
    split at hr
    · cases hr
    · split at hr
      · exact stE2_gi h hr
      · split at hr
        · exact stE2_gi h hr
        · exact stE2_gi h hr
  · exact stEnd_gi h hr
theorem st1_gi {s : ByteArray} {ng : Bool} {i : Nat} {d' : Dec} (hr : st1 s ng i = some d') : GI d' := by
  unfold st1 at hr
  cases hl : loopG s s.size i false false (dec0 ng) with
  | none => rw [hl] at hr; cases hr
  | some r =>
    rw [hl] at hr
    obtain ⟨i', dot, dig, d⟩ := r
    have hg : GI d := loopG_gi _ _ _ _ _ (GI.zero ng) _ hl
    simp only [st2] at hr
    split at hr
    · split at hr
      · exact st3_gi hg hr
      · exact st3_gi (hg.dp _) hr
    · cases hr
theorem st_gi {s : ByteArray} {d : Dec} (h : st s = some d) : GI d := by
  unfold st at h
  split at h
  · cases h
  · split at h
    · exact st1_gi h
    · split at h
      · exact st1_gi h
      · exact st1_gi h
theorem zero176 : Tryz.zeroCells176 = Array.replicate 800 (Value.int .u8 0) ++ #[.int .i64 0, .int .i64 0, .bool false, .bool false] := by kernel_rfl
theorem cs_zero : Cs Tryz.zeroCells176 (fun _ => 0) 0 0 false false := by
  rw [zero176]
  have hsz : (Array.replicate 800 (Value.int .u8 0)).size = 800 := Array.size_replicate
  refine ⟨by rw [Array.size_append, hsz]; rfl, fun i hi => ?_, ?_, ?_, ?_, ?_⟩
  · rw [Array.getElem?_append_left (by rw [hsz]; exact hi), Array.getElem?_replicate, if_pos hi]; rfl
  all_goals
    rw [Array.getElem?_append_right (by rw [hsz]; omega), hsz]
    rfl
theorem dec_zero (w : World) : DecIn (w.alloc (Obj.cells Tryz.zeroCells176 176)) w.heap.size (dec0 false) := ⟨_, box_alloc w _, cs_zero⟩

set_option maxRecDepth 100000 in
set_option maxHeartbeats 8000000 in
theorem at_e (HL : Sd LenC) (L : LayP) (s : ByteArray) (hn : NumS s) (hs : s.size ≤ 1048576) : ∃ f n k, (k = 0 ∨ k = 1 ∨ k = 2) ∧ AtC L s f n k := by
  obtain ⟨hi, hm⟩ := rd_i s
  have HSP := Sd.mk (special_c s hn)
  have HRD := Sd.mk (read_c s hn)
  generalize hr : rd s = r at hi hm HRD
  obtain ⟨m, e, ng, tr, i, ok⟩ := r
  simp only at hi hm
  have HM := Sd.mk hm
  have HN := Sd.mk hn
  clear hm hr hn
  have h98 := run98
  cases ok
  · refine ⟨0, i, 2, Or.inr (Or.inr rfl), fun w hL hw => ?_⟩
    go_enter Tryz.func62, Tryz.ntmps62
    go_wp2_with (first | (go_at_call 88; refine (HSP.out _ hs).mono ?_; rintro e w' ⟨rfl, rfl⟩) | (go_at_call 89; refine (HRD.out _ hs).mono ?_; rintro e w' ⟨rfl, rfl⟩; unfold rdV) | fail)
    go_ret3
    exact ⟨rfl, Ext.refl _⟩
  · cases hm0 : (m == 0)
    · by_cases h310 : 310 < e
      · refine ⟨(bits BinOp.or IntKind.u64 (sgF ng) 9218868437227405312).toNat, i, 1, Or.inr (Or.inl rfl), fun w hL hw => ?_⟩
        have f4 := hL.v4
        have q1 : decide (310 < e) = true := decide_eq_true h310
        clear hL
        go_enter Tryz.func62, Tryz.ntmps62
        go_wp2_with (first | (go_at_call 88; refine (HSP.out _ hs).mono ?_; rintro e w' ⟨rfl, rfl⟩) | (go_at_call 89; refine (HRD.out _ hs).mono ?_; rintro e w' ⟨rfl, rfl⟩; unfold rdV) | (go_at_call 97; refine (bool64_c _ _).mono ?_; rintro e w' ⟨rfl, rfl⟩) | fail)
        go_ret3
        exact ⟨rfl, Ext.refl _⟩
      · have q1 : decide (310 < e) = false := decide_eq_false h310
        by_cases h345 : e < -345
        · refine ⟨(bits BinOp.or IntKind.u64 (sgF ng) 0).toNat, i, 0, Or.inl rfl, fun w hL hw => ?_⟩
          have f4 := hL.v4
          have q2 : decide (e < -345) = true := decide_eq_true h345
          clear hL
          go_enter Tryz.func62, Tryz.ntmps62
          go_wp2_with (first | (go_at_call 88; refine (HSP.out _ hs).mono ?_; rintro e w' ⟨rfl, rfl⟩) | (go_at_call 89; refine (HRD.out _ hs).mono ?_; rintro e w' ⟨rfl, rfl⟩; unfold rdV) | (go_at_call 97; refine (bool64_c _ _).mono ?_; rintro e w' ⟨rfl, rfl⟩) | fail)
          go_ret3
          exact ⟨rfl, Ext.refl _⟩
        · have q2 : decide (e < -345) = false := decide_eq_false h345
          obtain ⟨q, hq⟩ : ∃ q : Nat, e = (q : Int) - 348 := ⟨(e + 348).toNat, by omega⟩
          subst hq
          have hq6 : q < 696 := by omega
          have HM0 := HM.out.1
          have HX := fun w hL => exact_c L.F L.RF m ((q : Int) - 348) ng w HM0 (Lay.exact (L := L) hL)
          have HXs := Sd.mk HX
          clear HX
          generalize exF L.F m ((q : Int) - 348) ng = X at HXs
          obtain ⟨f1, ok1⟩ := X
          cases tr
          · cases ok1
            · refine ⟨(pfF L.T m q (sgF ng)).1, i, (pfF L.T m q (sgF ng)).2, pfF_k _ _ _ _, fun w hL hw => ?_⟩
              have f4 := hL.v4
              have HLA := Sd.mk hL
              clear hL
              go_enter Tryz.func62, Tryz.ntmps62
              go_wp2_with (first | (go_at_call 99; refine (HXs.out _ HLA.out).mono ?_; rintro e w' ⟨rfl, rfl⟩) | (go_at_call 88; refine (HSP.out _ hs).mono ?_; rintro e w' ⟨rfl, rfl⟩) | (go_at_call 89; refine (HRD.out _ hs).mono ?_; rintro e w' ⟨rfl, rfl⟩; unfold rdV) | (go_at_call 97; refine (bool64_c _ _).mono ?_; rintro e w' ⟨rfl, rfl⟩) | fail)
              refine (pf64_c HL L.T m (sgF ng) q _ HM0 HM.out.2 hq6 HLA.out.pow (by omega)).mono ?_
              rintro e9 w9 ⟨rfl, he⟩
              have HE := Sd.mk he
              clear he
              go_wp2_with fail
              go_ret3
              exact ⟨rfl, HE.out⟩
            · refine ⟨f1, i, 0, Or.inl rfl, fun w hL hw => ?_⟩
              have f4 := hL.v4
              have HLA := Sd.mk hL
              clear hL
              go_enter Tryz.func62, Tryz.ntmps62
              go_wp2_with (first | (go_at_call 99; refine (HXs.out _ HLA.out).mono ?_; rintro e w' ⟨rfl, rfl⟩) | (go_at_call 88; refine (HSP.out _ hs).mono ?_; rintro e w' ⟨rfl, rfl⟩) | (go_at_call 89; refine (HRD.out _ hs).mono ?_; rintro e w' ⟨rfl, rfl⟩; unfold rdV) | (go_at_call 97; refine (bool64_c _ _).mono ?_; rintro e w' ⟨rfl, rfl⟩) | fail)
              go_ret3
              exact ⟨rfl, Ext.refl _⟩
          · have HM1 := u64_rng (m + 1)
            obtain ⟨y1, y2, hY⟩ : ∃ y1 y2, pfF L.T m q (sgF ng) = (y1, y2) := ⟨_, _, rfl⟩
            obtain ⟨z1, z2, hZ⟩ : ∃ z1 z2, pfF L.T (IntKind.u64.wrap (m + 1)) q (sgF ng) = (z1, z2) := ⟨_, _, rfl⟩
            have HY := Sd.mk hY
            have HZ := Sd.mk hZ
            clear hY hZ
            have hex : (s.extract 0 i).size ≤ 1048576 := by rw [ByteArray.size_extract]; omega
            have HEX := Sd.mk hex
            clear hex
            cases hyz : (FloatKind.f64.format.order y1 z1 == some Ordering.eq)
            · cases hst : st (s.extract 0 i)
              · have HST := Sd.mk hst
                refine ⟨0, i, 2, Or.inr (Or.inr rfl), fun w hL hw => ?_⟩
                have f4 := hL.v4
                have HLA := Sd.mk hL
                have hi2 : (0 : Int) ≤ (i : Int) := by omega
                clear hL
                go_enter Tryz.func62, Tryz.ntmps62
                go_wp2_with (first | (go_at_call 99; refine (HXs.out _ HLA.out).mono ?_; rintro e w' ⟨rfl, rfl⟩) | (go_at_call 88; refine (HSP.out _ hs).mono ?_; rintro e w' ⟨rfl, rfl⟩) | (go_at_call 89; refine (HRD.out _ hs).mono ?_; rintro e w' ⟨rfl, rfl⟩; unfold rdV) | (go_at_call 97; refine (bool64_c _ _).mono ?_; rintro e w' ⟨rfl, rfl⟩) | fail)
                refine (pf64_c HL L.T m (sgF ng) q _ HM0 HM.out.2 hq6 HLA.out.pow (by omega)).mono ?_
                rintro e9 w9 ⟨rfl, he⟩
                have HE := Sd.mk he
                have hw9 : 13 ≤ w9.heap.size := Nat.le_trans hw he.size
                clear he
                rw [HY.out]
                go_wp2_with fail
                refine (pf64_c HL L.T _ (sgF ng) q _ HM1.1 HM1.2 hq6 (HLA.out.ext HE.out).pow (by omega)).mono ?_
                rintro e9 w8 ⟨rfl, he⟩
                have HE2 := Sd.mk (HE.out.trans he)
                have hw8 : 13 ≤ w8.heap.size := Nat.le_trans hw9 he.size
                clear he
                rw [HZ.out]
                go_wp2_with fail
                refine (set_c (s.extract 0 i) (HN.out.extract 0 i) w8 _ w8.heap.size HEX.out (Nat.le_refl _) ((Ext.refl w8).alloc _) (dec_zero w8)).mono ?_
                rintro e7 w7 ⟨rfl, he, hd⟩
                have HE3 := Sd.mk (HE2.out.trans he)
                clear he hd
                rw [HST.out]
                go_wp2_with fail
                go_ret3
                exact ⟨rfl, HE3.out⟩
              · rename_i d
                have HST := Sd.mk hst
                obtain ⟨x, ov, hfb⟩ := fb_c L d (st_gi hst).ok
                have HFB := Sd.mk hfb
                clear hst hfb
                refine ⟨x.toNat, i, if ov then 1 else 0, (by cases ov <;> simp), fun w hL hw => ?_⟩
                have f4 := hL.v4
                have HLA := Sd.mk hL
                have hi2 : (0 : Int) ≤ (i : Int) := by omega
                clear hL
                go_enter Tryz.func62, Tryz.ntmps62
                go_wp2_with (first | (go_at_call 99; refine (HXs.out _ HLA.out).mono ?_; rintro e w' ⟨rfl, rfl⟩) | (go_at_call 88; refine (HSP.out _ hs).mono ?_; rintro e w' ⟨rfl, rfl⟩) | (go_at_call 89; refine (HRD.out _ hs).mono ?_; rintro e w' ⟨rfl, rfl⟩; unfold rdV) | (go_at_call 97; refine (bool64_c _ _).mono ?_; rintro e w' ⟨rfl, rfl⟩) | fail)
                refine (pf64_c HL L.T m (sgF ng) q _ HM0 HM.out.2 hq6 HLA.out.pow (by omega)).mono ?_
                rintro e9 w9 ⟨rfl, he⟩
                have HE := Sd.mk he
                have hw9 : 13 ≤ w9.heap.size := Nat.le_trans hw he.size
                clear he
                rw [HY.out]
                go_wp2_with fail
                refine (pf64_c HL L.T _ (sgF ng) q _ HM1.1 HM1.2 hq6 (HLA.out.ext HE.out).pow (by omega)).mono ?_
                rintro e9 w8 ⟨rfl, he⟩
                have HE2 := Sd.mk (HE.out.trans he)
                have hw8 : 13 ≤ w8.heap.size := Nat.le_trans hw9 he.size
                clear he
                rw [HZ.out]
                go_wp2_with fail
                refine (set_c (s.extract 0 i) (HN.out.extract 0 i) w8 _ w8.heap.size HEX.out (Nat.le_refl _) ((Ext.refl w8).alloc _) (dec_zero w8)).mono ?_
                rintro e7 w7 ⟨rfl, he, hd⟩
                have HE3 := Sd.mk (HE2.out.trans he)
                have HE4 := Sd.mk he
                have HDD := Sd.mk (hd d HST.out).1
                clear he hd
                rw [HST.out]
                go_wp2_with fail
                refine (HFB.out w8 _ w8.heap.size (HLA.out.ext HE2.out) (Nat.le_refl _) HE4.out HDD.out).mono ?_
                rintro e6 w6 ⟨rfl, he⟩
                have HE5 := Sd.mk (HE2.out.trans he)
                clear he
                cases ov
                · go_wp2_with fail
                  go_ret3
                  exact ⟨rfl, HE5.out⟩
                · go_wp2_with fail
                  go_ret3
                  exact ⟨rfl, HE5.out⟩
            · refine ⟨y1, i, y2, (by have := pfF_k L.T m q (sgF ng); rw [HY.out] at this; exact this), fun w hL hw => ?_⟩
              have f4 := hL.v4
              have HLA := Sd.mk hL
              have hi2 : (0 : Int) ≤ (i : Int) := by omega
              clear hL
              go_enter Tryz.func62, Tryz.ntmps62
              go_wp2_with (first | (go_at_call 99; refine (HXs.out _ HLA.out).mono ?_; rintro e w' ⟨rfl, rfl⟩) | (go_at_call 88; refine (HSP.out _ hs).mono ?_; rintro e w' ⟨rfl, rfl⟩) | (go_at_call 89; refine (HRD.out _ hs).mono ?_; rintro e w' ⟨rfl, rfl⟩; unfold rdV) | (go_at_call 97; refine (bool64_c _ _).mono ?_; rintro e w' ⟨rfl, rfl⟩) | fail)
              refine (pf64_c HL L.T m (sgF ng) q _ HM0 HM.out.2 hq6 HLA.out.pow (by omega)).mono ?_
              rintro e9 w9 ⟨rfl, he⟩
              have HE := Sd.mk he
              have hw9 : 13 ≤ w9.heap.size := Nat.le_trans hw he.size
              clear he
              rw [HY.out]
              go_wp2_with fail
              refine (pf64_c HL L.T _ (sgF ng) q _ HM1.1 HM1.2 hq6 (HLA.out.ext HE.out).pow (by omega)).mono ?_
              rintro e9 w8 ⟨rfl, he⟩
              have HE2 := Sd.mk (HE.out.trans he)
              have hw8 : 13 ≤ w8.heap.size := Nat.le_trans hw9 he.size
              clear he
              rw [HZ.out]
              go_wp2_with fail
              go_ret3
              exact ⟨rfl, HE2.out⟩
    · refine ⟨(bits BinOp.or IntKind.u64 (sgF ng) 0).toNat, i, 0, Or.inl rfl, fun w hL hw => ?_⟩
      have f4 := hL.v4
      clear hL
      go_enter Tryz.func62, Tryz.ntmps62
      go_wp2_with (first | (go_at_call 88; refine (HSP.out _ hs).mono ?_; rintro e w' ⟨rfl, rfl⟩) | (go_at_call 89; refine (HRD.out _ hs).mono ?_; rintro e w' ⟨rfl, rfl⟩; unfold rdV) | (go_at_call 97; refine (bool64_c _ _).mono ?_; rintro e w' ⟨rfl, rfl⟩) | fail)
      go_ret3
      exact ⟨rfl, Ext.refl _⟩

end Go.Proofs.YtcfgjmdfpnfkjaaGreatDoor
set_option linter.unusedVariables false
set_option linter.unusedSimpArgs false
namespace Go.Proofs.YtcfgjmdfpnfkjaaGreatDoor
open Go.RowKit

abbrev gv (k : Int) (r : ByteArray) (A : Option Addr) (n c : Nat) : Array Value := #[.int .i64 k, .string r, .slice A n c]
theorem zz_c (k : Int) (r : ByteArray) (A : Option Addr) (n c : Nat) (w : World) (hr : r.size ≤ 1048576) (hn : n ≤ 1048576) :
    Calls Tryz.prog 4 #[.agg (gv k r A n c)] w fun e w' => e = .returned (.bool true) ∧ Ext w w' := by
  go_enter Tryz.func4, Tryz.ntmps4
  go_wp2_with fail
  go_ret
  exact ⟨rfl, (Ext.refl _).alloc _⟩

/-- What FitsVal lets in, as far as it is wanted. -/
inductive GV.Fit : GV → Prop
  | mk (k : Int) (r : ByteArray) (l : List (ByteArray × GV)) (h1 : 1 ≤ k) (h9 : k ≤ 9) (h5 : k = 5 → nk r = 5) (hn : k = 1 ∨ k = 2 → NumS r) (h8 : k < 8 → l = []) (hk : ∀ i (h : i < l.length), GV.Fit (l[i]).2) : GV.Fit (.mk k r l)
def FitRes (v : GV) (w : World) (e : Ending) (w' : World) : Prop := (∃ b, e = .returned (.bool b) ∧ (b = true → v.Fit)) ∧ Ext w w'
def FitC (v : GV) : Prop := ∀ (d : Int) (cs : List Value) (w : World), -1 ≤ d → d ≤ 60 → v.At w cs → Calls Tryz.prog 5 #[.agg cs.toArray, .bool true, .int .i64 d] w (FitRes v w)

/-- Wordy: some bool. -/
def WordC (v : GV) : Prop := ∀ (cs : List Value) (w : World), v.At w cs → Calls Tryz.prog 6 #[.agg cs.toArray, .int .i64 300] w fun e w' => (∃ b, e = .returned (.bool b)) ∧ Ext w w'

set_option maxHeartbeats 8000000 in
set_option maxRecDepth 100000 in
theorem wordy_c (v : GV) : WordC v := by
  induction v using GV.ind with | h k r l ih
  · intro cs w hv
    have hv' := hv
    simp only [GV.At] at hv
    obtain ⟨A, c, rfl, hl, hA, hr⟩ := hv
    have HV := Sd.mk hv'
    have HA := Sd.mk hA
    have IH := Sd.mk ih
    clear hv' hA ih
    go_enter Tryz.func6, Tryz.ntmps6
    go_wp2_with fail
    go_loopg [10] l.length (fun g v10 wr => ∃ j : Nat, v10 = .int .i64 j ∧ g + j = l.length ∧ Sd (Ext w wr) ∧ Sd (wr.heap[w.heap.size]? = some (.cells (gv k r A l.length c) 24 (0, 0))))
    case atStart => exact ⟨0, rfl, by omega, ⟨(Ext.refl _).alloc _⟩, ⟨box_alloc _ _⟩⟩
    case round =>
      obtain ⟨j, rfl, hg, HE, HB⟩ := hrel
      have f := box_cell HB.out
      by_cases hj : j < l.length
      · obtain ⟨ad, B, c', rfl, e0, hn, e1, e2, e3, hAt⟩ := (HA.out.ext HE.out).elem j hj
        have HAt := Sd.mk hAt
        clear hAt
        go_wp2_with fail
        refine (IH.out j hj _ _ (HAt.out.ext ((Ext.refl wr).alloc _))).mono ?_
        rintro e w2 ⟨⟨bq, rfl⟩, he⟩
        have HE2 := Sd.mk (HE.out.trans (((Ext.refl wr).alloc _).trans he))
        have HB2 := Sd.mk (box_ext HB.out (((Ext.refl wr).alloc _).trans he))
        clear he e0 e1 e2 e3 f
        cases bq
        · go_wp2_with fail
          go_roundg (l.length - (j + 1))
          case measure => omega
          case rel => exact ⟨j + 1, by go_num, by omega, HE2, HB2⟩
        · go_wp2_with fail
          go_ret
          exact ⟨⟨_, rfl⟩, HE2.out⟩
      · go_wp2_with fail
        all_goals
          go_ret
          exact ⟨⟨_, rfl⟩, HE.out⟩

end Go.Proofs.YtcfgjmdfpnfkjaaGreatDoor
set_option linter.unusedVariables false
set_option linter.unusedSimpArgs false
namespace Go.Proofs.YtcfgjmdfpnfkjaaGreatDoor
open Go.RowKit Pf

/-- toError, at the two errors of internal/strconv: some error (laid from the shelf). -/
def ErrC : Prop := ∀ (L : LayP) (k : Int) (fn s : ByteArray) (base bits : Int) (w : World), (k = 1 ∨ k = 2) → s.size ≤ 1048576 → Lay L w →
  Calls Tryz.prog 29 #[.string fn, .string s, .int .i64 base, .int .i64 bits, .iface 103 (.int .i64 k)] w fun e w' => (∃ x, e = .returned (.iface 107 x)) ∧ Ext w w'
/-- No error, or some error. -/
def ErrIs (bad : Bool) (ev : Value) : Prop := (bad = false ∧ ev = .nilIface) ∨ (bad = true ∧ ∃ x, ev = .iface 107 x)
/-- What ParseFloat hands back. -/
def PfRes (f : Nat) (bad : Bool) (w : World) (e : Ending) (w' : World) : Prop := ∃ ev, e = .returned (.tuple #[.float .f64 f, ev]) ∧ ErrIs bad ev ∧ Ext w w'
def PfC (L : LayP) (s : ByteArray) (f : Nat) (bad : Bool) : Prop := ∀ (w : World), Lay L w → 13 ≤ w.heap.size → Calls Tryz.prog 16 #[.string s, .int .i64 64] w (PfRes f bad w)

theorem err_0 : err 0 = .nilIface := rfl
theorem err_1 : err 1 = .iface 103 (.int .i64 1) := rfl
theorem err_2 : err 2 = .iface 103 (.int .i64 2) := rfl

def InC (L : LayP) (s : ByteArray) (f : Nat) (k : Int) : Prop := ∀ (w : World), Lay L w → 13 ≤ w.heap.size → Calls Tryz.prog 30 #[.string s, .int .i64 64] w fun en w' => en = .returned (.tuple #[.float .f64 f, err k]) ∧ Ext w w'
set_option maxRecDepth 100000 in
set_option maxHeartbeats 1000000 in
theorem pre_f (L : LayP) (s : ByteArray) (f n : Nat) (k : Int) (h : AtC L s f n k) (w : World) (hL : Lay L w) (hw : 13 ≤ w.heap.size) : Calls Tryz.prog 43 #[.string s, .int .i64 64] w fun en w' => en = .returned (.tuple #[.float .f64 f, .int .i64 n, err k]) ∧ Ext w w' := by
  have H := Sd.mk h
  clear h
  go_enter Tryz.func43, Tryz.ntmps43
  go_wp2_with fail
  refine (H.out _ hL hw).mono ?_
  rintro e w1 ⟨rfl, he⟩
  have HE := Sd.mk he
  clear he
  go_wp2_with fail
  go_ret3
  exact ⟨rfl, HE.out⟩
set_option maxRecDepth 100000 in
set_option maxHeartbeats 1000000 in
theorem in_e (HL : Sd LenC) (L : LayP) (s : ByteArray) (hn : NumS s) (hs : s.size ≤ 1048576) : ∃ f k, (k = 0 ∨ k = 1 ∨ k = 2) ∧ InC L s f k := by
  obtain ⟨f, n, k, hk, h⟩ := at_e HL L s hn hs
  have H := Sd.mk h
  clear h
  by_cases e : n = s.size
  · refine ⟨f, k, hk, fun w hL hw => ?_⟩
    have q : ((n : Int) != (s.size : Int)) = false := by simp; omega
    clear e hk
    go_enter Tryz.func30, Tryz.ntmps30
    go_wp2_with fail
    refine (pre_f L s f n k H.out _ hL hw).mono ?_
    rintro e w1 ⟨rfl, he⟩
    have HE := Sd.mk he
    clear he
    go_wp2_with fail
    go_ret2
    exact ⟨rfl, HE.out⟩
  · refine ⟨0, 2, Or.inr (Or.inr rfl), fun w hL hw => ?_⟩
    have q : ((n : Int) != (s.size : Int)) = true := by simp; omega
    clear e hk
    go_enter Tryz.func30, Tryz.ntmps30
    go_wp2_with fail
    refine (pre_f L s f n k H.out _ hL hw).mono ?_
    rintro e w1 ⟨rfl, he⟩
    have HE := Sd.mk he
    clear he
    go_wp2_with fail
    go_ret2
    exact ⟨rfl, HE.out⟩

set_option maxRecDepth 100000 in
set_option maxHeartbeats 1000000 in
/-- ParseFloat's answer hangs on the text alone. -/
theorem pf_e (HL : Sd LenC) (HX : Sd ErrC) (L : LayP) (s : ByteArray) (hn : NumS s) (hs : s.size ≤ 1048576) : ∃ f bad, PfC L s f bad := by
  obtain ⟨f, k, hk, h⟩ := in_e HL L s hn hs
  have H := Sd.mk h
  clear h
  rcases hk with rfl | rfl | rfl
  · refine ⟨f, false, fun w hL hw => ?_⟩
    go_enter Tryz.func16, Tryz.ntmps16
    go_wp2_with fail
    refine (H.out _ hL hw).mono ?_
    rw [err_0]
    rintro e w1 ⟨rfl, he⟩
    have HE := Sd.mk he
    clear he
    go_wp2_with fail
    go_ret2
    exact ⟨_, rfl, Or.inl ⟨rfl, rfl⟩, HE.out⟩
  all_goals
    refine ⟨f, true, fun w hL hw => ?_⟩
    go_enter Tryz.func16, Tryz.ntmps16
    go_wp2_with fail
    refine (H.out _ hL hw).mono ?_
    first | rw [err_1] | rw [err_2]
    rintro e w1 ⟨rfl, he⟩
    have HE := Sd.mk he
    clear he
    go_wp2_with fail
    refine (HX.out L _ _ s _ _ _ (by first | exact Or.inl rfl | exact Or.inr rfl) hs (hL.ext HE.out)).mono ?_
    rintro e w2 ⟨⟨x, rfl⟩, he⟩
    have HE2 := Sd.mk (HE.out.trans he)
    clear he
    go_wp2_with fail
    go_ret2
    exact ⟨_, rfl, Or.inr ⟨rfl, x, rfl⟩, HE2.out⟩

end Go.Proofs.YtcfgjmdfpnfkjaaGreatDoor
set_option linter.unusedVariables false
set_option linter.unusedSimpArgs false
namespace Go.Proofs.YtcfgjmdfpnfkjaaGreatDoor
open Go.RowKit Pf

/-- Data. -/
inductive PD where
  | mk (kind : Int) (b : Bool) (n : Int) (f : Nat) (s : ByteArray) (kids : List (ByteArray × PD))
namespace PD
def kind : PD → Int | mk k _ _ _ _ _ => k
def bool : PD → Bool | mk _ b _ _ _ _ => b
def num : PD → Int | mk _ _ n _ _ _ => n
def flt : PD → Nat | mk _ _ _ f _ _ => f
def text : PD → ByteArray | mk _ _ _ _ s _ => s
def kids : PD → List (ByteArray × PD) | mk _ _ _ _ _ l => l
end PD
abbrev dv (k : Int) (b : Bool) (n : Int) (f : Nat) (s : ByteArray) (A : Option Addr) (len c : Nat) : Array Value := #[.int .i64 k, .bool b, .int .i64 n, .int .u64 f, .string s, .slice A len c]

mutual
/-- Data's six cells in a world; its rows lie in blocks of N. -/
def PD.At (w : World) (N : Nat → Prop) : PD → List Value → Prop
  | .mk k b n f s l, cs => ∃ A c, cs = [.int .i64 k, .bool b, .int .i64 n, .int .u64 f, .string s, .slice A l.length c] ∧ l.length ≤ 1048576 ∧ PD.All w N A 0 l
/-- A row of named data from place i on. -/
def PD.All (w : World) (N : Nat → Prop) (A : Option Addr) : Nat → List (ByteArray × PD) → Prop
  | _, [] => True
  | i, (nm, x) :: r => (∃ ad cs, A = some ad ∧ N ad.block ∧ x.At w N cs ∧ w.cell? (ad.add (i * 7)) = some (.string nm) ∧ ∀ j (h : j < cs.length), w.cell? ((ad.add (i * 7)).add (1 + j)) = some cs[j]) ∧ PD.All w N A (i + 1) r
end
theorem cell_in {w w' : World} {a : Addr} {v : Value} (h : w.cell? a = some v) (e : w'.heap[a.block]? = w.heap[a.block]?) : w'.cell? a = some v := by
  rw [← h]; simp only [World.cell?, e]
theorem add_in (a : Addr) (i : Nat) : (a.add i).block = a.block := by unfold Addr.add; split <;> rfl
mutual
/-- What lies outside of N may have turned. -/
theorem PD.At.keep {w w' : World} {N N' : Nat → Prop} (e : ∀ k, N k → k < w.heap.size → w'.heap[k]? = w.heap[k]? ∧ N' k) : ∀ {v : PD} {cs : List Value}, v.At w N cs → v.At w' N' cs
  | .mk k b n f s l, cs, h => by
    simp only [PD.At] at h ⊢
    obtain ⟨A, c, h0, h1, h2⟩ := h
    exact ⟨A, c, h0, h1, PD.All.keep e h2⟩
theorem PD.All.keep {w w' : World} {N N' : Nat → Prop} (e : ∀ k, N k → k < w.heap.size → w'.heap[k]? = w.heap[k]? ∧ N' k) : ∀ {l : List (ByteArray × PD)} {A : Option Addr} {i : Nat}, PD.All w N A i l → PD.All w' N' A i l
  | [], _, _, _ => by simp [PD.All]
  | (nm, x) :: r, A, i, h => by
    simp only [PD.All] at h ⊢
    obtain ⟨⟨ad, cs, h0, hN, h1, h2, h5⟩, h3⟩ := h
    have hlt := World.block_lt_of_cell? w _ h2
    rw [add_in] at hlt
    obtain ⟨e1, e2⟩ := e _ hN hlt
    exact ⟨⟨ad, cs, h0, e2, PD.At.keep e h1, cell_in h2 (by rw [add_in]; exact e1), fun j hj => cell_in (h5 j hj) (by rw [add_in, add_in]; exact e1)⟩, PD.All.keep e h3⟩
end
theorem PD.At.ext {w w' : World} {N : Nat → Prop} (e : Ext w w') {v : PD} {cs : List Value} (h : v.At w N cs) : v.At w' N cs := h.keep fun k hN hk => ⟨e.block k hk, hN⟩
theorem PD.All.ext {w w' : World} {N : Nat → Prop} (e : Ext w w') {l : List (ByteArray × PD)} {A : Option Addr} {i : Nat} (h : PD.All w N A i l) : PD.All w' N A i l := h.keep fun k hN hk => ⟨e.block k hk, hN⟩
theorem PD.All.get {w : World} {N : Nat → Prop} {A : Option Addr} : ∀ {l : List (ByteArray × PD)} {i : Nat}, PD.All w N A i l → ∀ k (h : k < l.length),
    ∃ ad cs, A = some ad ∧ N ad.block ∧ (l[k]).2.At w N cs ∧ w.cell? (ad.add ((i + k) * 7)) = some (.string (l[k]).1) ∧ ∀ j (h : j < cs.length), w.cell? ((ad.add ((i + k) * 7)).add (1 + j)) = some cs[j]
  | [], _, _, k, h => absurd h (by simp)
  | (nm, x) :: r, i, hA, 0, _ => by simpa [PD.All] using hA.1
  | (nm, x) :: r, i, hA, k + 1, h => by
    have := PD.All.get (l := r) hA.2 k (by simpa using h)
    simpa [Nat.add_assoc, Nat.add_comm 1 k] using this
theorem PD.All.elem {w : World} {N : Nat → Prop} {A : Option Addr} {l : List (ByteArray × PD)} (h : PD.All w N A 0 l) (j : Nat) (hj : j < l.length) :
    ∃ ad B c, A = some ad ∧ N ad.block ∧ w.cell? (ad.add (j * 7)) = some (.string (l[j]).1) ∧
      w.cell? ⟨(ad.add (j * 7)).block, (ad.add (j * 7)).off + 1, none⟩ = some (.int .i64 (l[j]).2.kind) ∧
      w.cell? ⟨(ad.add (j * 7)).block, (ad.add (j * 7)).off + 2, none⟩ = some (.bool (l[j]).2.bool) ∧
      w.cell? ⟨(ad.add (j * 7)).block, (ad.add (j * 7)).off + 3, none⟩ = some (.int .i64 (l[j]).2.num) ∧
      w.cell? ⟨(ad.add (j * 7)).block, (ad.add (j * 7)).off + 4, none⟩ = some (.int .u64 (l[j]).2.flt) ∧
      w.cell? ⟨(ad.add (j * 7)).block, (ad.add (j * 7)).off + 5, none⟩ = some (.string (l[j]).2.text) ∧
      w.cell? ⟨(ad.add (j * 7)).block, (ad.add (j * 7)).off + 6, none⟩ = some (.slice B (l[j]).2.kids.length c) ∧
      (l[j]).2.At w N [.int .i64 (l[j]).2.kind, .bool (l[j]).2.bool, .int .i64 (l[j]).2.num, .int .u64 (l[j]).2.flt, .string (l[j]).2.text, .slice B (l[j]).2.kids.length c] := by
  obtain ⟨ad, cs, hA, hN, hV, hn, hc⟩ := h.get j hj
  generalize (l[j]).2 = x at hV ⊢
  obtain ⟨k, b, n, f, s, kids⟩ := x
  have hV' := hV
  simp only [PD.At] at hV
  obtain ⟨B, c, rfl, -, -⟩ := hV
  simp only [Nat.zero_add] at hn hc
  refine ⟨ad, B, c, hA, hN, hn, ?_, ?_, ?_, ?_, ?_, ?_, hV'⟩
  · rw [← add_off _ _ 1 (by omega)]; exact hc 0 (by simp)
  · rw [← add_off _ _ 2 (by omega)]; exact hc 1 (by simp)
  · rw [← add_off _ _ 3 (by omega)]; exact hc 2 (by simp)
  · rw [← add_off _ _ 4 (by omega)]; exact hc 3 (by simp)
  · rw [← add_off _ _ 5 (by omega)]; exact hc 4 (by simp)
  · rw [← add_off _ _ 6 (by omega)]; exact hc 5 (by simp)

/-- Named data laid out as cells. -/
def Rows (w : World) (N : Nat → Prop) : List (ByteArray × PD) → List Value → Prop
  | [], xs => xs = []
  | (nm, p) :: r, xs => ∃ cs rest, p.At w N cs ∧ xs = .string nm :: (cs ++ rest) ∧ Rows w N r rest
theorem PD.At.len {w : World} {N : Nat → Prop} {p : PD} {cs : List Value} (h : p.At w N cs) : cs.length = 6 := by
  obtain ⟨k, b, n, f, s, l⟩ := p
  simp only [PD.At] at h
  obtain ⟨A, c, rfl, -, -⟩ := h
  rfl
theorem Rows.keep {w w' : World} {N N' : Nat → Prop} (e : ∀ k, N k → k < w.heap.size → w'.heap[k]? = w.heap[k]? ∧ N' k) : ∀ {l : List (ByteArray × PD)} {xs : List Value}, Rows w N l xs → Rows w' N' l xs
  | [], _, h => h
  | (nm, p) :: r, xs, h => by
    obtain ⟨cs, rest, h1, h2, h3⟩ := h
    exact ⟨cs, rest, h1.keep e, h2, Rows.keep e h3⟩
theorem Rows.ext {w w' : World} {N : Nat → Prop} (e : Ext w w') {l : List (ByteArray × PD)} {xs : List Value} (h : Rows w N l xs) : Rows w' N l xs := h.keep fun k hN hk => ⟨e.block k hk, hN⟩
theorem Rows.len {w : World} {N : Nat → Prop} : ∀ {l : List (ByteArray × PD)} {xs : List Value}, Rows w N l xs → xs.length = 7 * l.length
  | [], _, h => by cases h; rfl
  | (nm, p) :: r, xs, h => by
    obtain ⟨cs, rest, h1, rfl, h3⟩ := h
    have a := h1.len
    have b := Rows.len h3
    simp only [List.length_cons, List.length_append]
    omega
theorem Rows.append {w : World} {N : Nat → Prop} : ∀ {l m : List (ByteArray × PD)} {xs ys : List Value}, Rows w N l xs → Rows w N m ys → Rows w N (l ++ m) (xs ++ ys)
  | [], m, _, ys, h, k => by cases h; exact k
  | (nm, p) :: r, m, xs, ys, h, k => by
    obtain ⟨cs, rest, h1, rfl, h3⟩ := h
    exact ⟨cs, rest ++ ys, h1, by simp, Rows.append h3 k⟩
theorem Rows.one {w : World} {N : Nat → Prop} {nm : ByteArray} {p : PD} {cs : List Value} (h : p.At w N cs) : Rows w N [(nm, p)] (.string nm :: cs) := ⟨cs, [], h, by simp, rfl⟩
theorem Rows.split {w : World} {N : Nat → Prop} : ∀ {l : List (ByteArray × PD)} {xs : List Value}, Rows w N l xs → ∀ i, Rows w N (l.take i) (xs.take (7 * i)) ∧ Rows w N (l.drop i) (xs.drop (7 * i))
  | [], _, h, i => by cases h; simp [Rows]
  | (nm, p) :: r, xs, h, 0 => by simpa [Rows] using h
  | (nm, p) :: r, xs, h, i + 1 => by
    obtain ⟨cs, rest, h1, rfl, h3⟩ := h
    have a := h1.len
    obtain ⟨b, c⟩ := Rows.split h3 i
    have e : 7 * (i + 1) = (7 * i + 6) + 1 := by omega
    rw [e]
    simp only [List.take_succ_cons, List.drop_succ_cons]
    have e1 : (cs ++ rest).take (7 * i + 6) = cs ++ rest.take (7 * i) := by rw [List.take_append, List.take_of_length_le (by omega)]; congr 1; congr 1; omega
    have e2 : (cs ++ rest).drop (7 * i + 6) = rest.drop (7 * i) := by rw [List.drop_append, List.drop_of_length_le (by omega)]; simp; congr 1; omega
    rw [e1, e2]
    exact ⟨⟨cs, _, h1, rfl, b⟩, c⟩
theorem rows_all {w : World} {N : Nat → Prop} {g : Nat} (hN : N g) {cur : Array Value} {t : TypeId} (hb : w.heap[g]? = some (.cells cur t (0, 0))) : ∀ {l : List (ByteArray × PD)} {xs : List Value} {i : Nat}, Rows w N l xs →
    (∀ k (h : k < xs.length), cur[i * 7 + k]? = some xs[k]) → PD.All w N (some ⟨g, 0, none⟩) i l
  | [], _, _, _, _ => by simp [PD.All]
  | (nm, p) :: r, xs, i, h, hc => by
    obtain ⟨cs, rest, h1, rfl, h3⟩ := h
    have a := h1.len
    have ea : ∀ n, (⟨g, 0, none⟩ : Addr).add n = ⟨g, n, none⟩ := fun n => by unfold Addr.add; split <;> simp_all
    simp only [PD.All]
    refine ⟨⟨_, cs, rfl, hN, h1, ?_, fun j hj => ?_⟩, rows_all hN hb h3 fun k hk => ?_⟩
    · rw [ea, box_cell hb]
      exact hc 0 (by simp)
    · rw [ea, add_off' g (i * 7) (1 + j), box_cell hb]
      have := hc (1 + j) (by simp; omega)
      rw [this]
      simp [Nat.add_comm 1 j, List.getElem_append_left hj]
    · have := hc (7 + k) (by simp; omega)
      have e : (i + 1) * 7 + k = i * 7 + (7 + k) := by omega
      rw [e, this]
      have e7 : 7 + k = (6 + k) + 1 := by omega
      simp only [e7, List.getElem_cons_succ]
      rw [List.getElem_append_right (by omega)]
      congr 2
      omega
where
  add_off' (g n j : Nat) : (⟨g, n, none⟩ : Addr).add j = ⟨g, n + j, none⟩ := by unfold Addr.add; split <;> simp_all

end Go.Proofs.YtcfgjmdfpnfkjaaGreatDoor
set_option linter.unusedVariables false
set_option linter.unusedSimpArgs false
namespace Go.Proofs.YtcfgjmdfpnfkjaaGreatDoor
open Go.RowKit

/-! ## members by rising names -/
section
variable {δ : Type}
abbrev Key := ByteArray
/-- One name ahead of another one. -/
def ltB (a b : ByteArray) : Prop := a.toList < b.toList
instance (a b : ByteArray) : Decidable (ltB a b) := inferInstanceAs (Decidable (a.toList < b.toList))
theorem ltB_irrefl (a : ByteArray) : ¬ ltB a a := List.lt_irrefl _
theorem ltB_trans {a b c : ByteArray} (h : ltB a b) (k : ltB b c) : ltB a c := List.lt_trans h k
theorem toList_inj {a b : ByteArray} (h : a.toList = b.toList) : a = b := by
  rw [ByteArray.toList_eq, ByteArray.toList_eq] at h
  exact ByteArray.ext (Array.toList_inj.1 h)
/-- A member put where its name wants it; one of that name is replaced. -/
def ins (k : Key) (d : δ) : List (Key × δ) → List (Key × δ)
  | [] => [(k, d)]
  | (x, e) :: r => if ltB x k then (x, e) :: ins k d r else if x = k then (k, d) :: r else (k, d) :: (x, e) :: r
/-- Strictly rising. -/
def Rising : List (Key × δ) → Prop := List.Pairwise (fun a b => ltB a.1 b.1)
theorem ins_mem {k : Key} {d : δ} : ∀ {l : List (Key × δ)}, Rising l → ∀ p, p ∈ ins k d l ↔ p = (k, d) ∨ (p.1 ≠ k ∧ p ∈ l)
  | [], _, p => by
    simp only [ins, List.mem_singleton, List.not_mem_nil, and_false, or_false]
  | (x, e) :: r, h, p => by
    unfold Rising at h
    rw [List.pairwise_cons] at h
    obtain ⟨h1, h2⟩ := h
    unfold ins
    by_cases hlt : ltB x k
    · rw [if_pos hlt, List.mem_cons, ins_mem h2 p, List.mem_cons]
      constructor
      · rintro (rfl | rfl | ⟨a, b⟩)
        · exact Or.inr ⟨fun e' => by simp only at e'; subst e'; exact ltB_irrefl _ hlt, Or.inl rfl⟩
        · exact Or.inl rfl
        · exact Or.inr ⟨a, Or.inr b⟩
      · rintro (rfl | ⟨a, rfl | b⟩)
        · exact Or.inr (Or.inl rfl)
        · exact Or.inl rfl
        · exact Or.inr (Or.inr ⟨a, b⟩)
    · rw [if_neg hlt]
      by_cases he : x = k
      · subst he
        rw [if_pos rfl, List.mem_cons, List.mem_cons]
        constructor
        · rintro (rfl | b)
          · exact Or.inl rfl
          · refine Or.inr ⟨fun e' => ?_, Or.inr b⟩
            have := h1 p b
            rw [e'] at this
            exact ltB_irrefl _ this
        · rintro (rfl | ⟨a, rfl | b⟩)
          · exact Or.inl rfl
          · exact absurd rfl a
          · exact Or.inr b
      · rw [if_neg he, List.mem_cons]
        constructor
        · rintro (rfl | b)
          · exact Or.inl rfl
          · refine Or.inr ⟨fun e' => ?_, b⟩
            rw [List.mem_cons] at b
            rcases b with rfl | b
            · exact he e'
            · have := h1 p b
              rw [e'] at this
              exact hlt this
        · rintro (rfl | ⟨a, b⟩)
          · exact Or.inl rfl
          · exact Or.inr b
theorem key_lt_of {x k : Key} (h1 : ¬ ltB x k) (h2 : x ≠ k) : ltB k x := by
  rcases List.le_iff_lt_or_eq.1 (List.not_lt.1 h1) with h | h
  · exact h
  · exact absurd (toList_inj h.symm) h2
theorem ins_rising {k : Key} {d : δ} : ∀ {l : List (Key × δ)}, Rising l → Rising (ins k d l)
  | [], _ => by simp [ins, Rising]
  | (x, e) :: r, h => by
    have h' := h
    unfold Rising at h
    rw [List.pairwise_cons] at h
    obtain ⟨h1, h2⟩ := h
    unfold ins
    by_cases hlt : ltB x k
    · rw [if_pos hlt]
      unfold Rising
      rw [List.pairwise_cons]
      refine ⟨fun p hp => ?_, ins_rising h2⟩
      rcases (ins_mem h2 p).1 hp with rfl | ⟨_, b⟩
      · exact hlt
      · exact h1 p b
    · rw [if_neg hlt]
      by_cases he : x = k
      · subst he
        rw [if_pos rfl]
        unfold Rising
        rw [List.pairwise_cons]
        exact ⟨h1, h2⟩
      · rw [if_neg he]
        unfold Rising
        rw [List.pairwise_cons]
        refine ⟨fun p hp => ?_, h'⟩
        have hk := key_lt_of hlt he
        rw [List.mem_cons] at hp
        rcases hp with rfl | hp
        · exact hk
        · exact ltB_trans hk (h1 p hp)
/-- Two rising rows of the same members are one. -/
theorem rising_eq : ∀ {l m : List (Key × δ)}, Rising l → Rising m → (∀ p, p ∈ l ↔ p ∈ m) → l = m
  | [], [], _, _, _ => rfl
  | [], b :: m, _, _, h => absurd ((h b).2 (by simp)) (by simp)
  | a :: l, [], _, _, h => absurd ((h a).1 (by simp)) (by simp)
  | a :: l, b :: m, hl, hm, h => by
    unfold Rising at hl hm
    rw [List.pairwise_cons] at hl hm
    have e : a = b := by
      rcases List.mem_cons.1 ((h a).1 (by simp)) with e | ha
      · exact e
      · rcases List.mem_cons.1 ((h b).2 (by simp)) with e | hb
        · exact e.symm
        · exact absurd (ltB_trans (hl.1 b hb) (hm.1 a ha)) (ltB_irrefl _)
    subst e
    congr 1
    refine rising_eq hl.2 hm.2 fun p => ⟨fun hp => ?_, fun hp => ?_⟩
    · rcases List.mem_cons.1 ((h p).1 (by simp [hp])) with e | hp'
      · subst e; exact absurd (hl.1 _ hp) (ltB_irrefl _)
      · exact hp'
    · rcases List.mem_cons.1 ((h p).2 (by simp [hp])) with e | hp'
      · subst e; exact absurd (hm.1 _ hp) (ltB_irrefl _)
      · exact hp'
/-- A row whose names are unlike and that no later name undercuts is rising. -/
theorem rising_of {l : List (Key × δ)} (hn : (l.map (·.1)).Nodup) (hs : l.Pairwise (fun a b => ¬ ltB b.1 a.1)) : Rising l := by
  unfold Rising
  induction l with
  | nil => exact List.Pairwise.nil
  | cons a l ih =>
    rw [List.pairwise_cons] at hs ⊢
    simp only [List.map_cons, List.nodup_cons] at hn
    refine ⟨fun p hp => ?_, ih hn.2 hs.2⟩
    exact key_lt_of (hs.1 p hp) fun e => hn.1 (e ▸ List.mem_map_of_mem hp)
end

/-- All members put one by one. -/
def insAll {δ : Type} (l : List (Key × δ)) : List (Key × δ) := l.foldl (fun m p => ins p.1 p.2 m) []
theorem insAll_snoc {δ : Type} (l : List (Key × δ)) (p : Key × δ) : insAll (l ++ [p]) = ins p.1 p.2 (insAll l) := by simp [insAll]
theorem foldl_rising {δ : Type} : ∀ (l m : List (Key × δ)), Rising m → Rising (l.foldl (fun m p => ins p.1 p.2 m) m)
  | [], _, h => h
  | p :: l, m, h => foldl_rising l _ (ins_rising h)
theorem insAll_rising {δ : Type} (l : List (Key × δ)) : Rising (insAll l) := foldl_rising l [] List.Pairwise.nil
theorem ins_len {δ : Type} (k : Key) (d : δ) : ∀ l : List (Key × δ), (ins k d l).length ≤ l.length + 1
  | [] => by simp [ins]
  | (x, e) :: r => by
    unfold ins
    split
    · have := ins_len k d r; simp only [List.length_cons]; omega
    · split <;> simp
theorem foldl_len {δ : Type} : ∀ (l m : List (Key × δ)), (l.foldl (fun m p => ins p.1 p.2 m) m).length ≤ m.length + l.length
  | [], _ => by simp
  | p :: l, m => by
    have a := foldl_len l (ins p.1 p.2 m)
    have b := ins_len p.1 p.2 m
    simp only [List.foldl_cons, List.length_cons]
    omega
theorem insAll_len {δ : Type} (l : List (Key × δ)) : (insAll l).length ≤ l.length := by have := foldl_len l []; simpa [insAll] using this

/-! ## what a value comes to -/
/-- ParseInt's answer (laid from the shelf). -/
def PiC (L : LayP) (s : ByteArray) (n : Int) (bad : Bool) : Prop := ∀ (w : World), Lay L w → 13 ≤ w.heap.size → Calls Tryz.prog 15 #[.string s, .int .i64 10, .int .i64 64] w fun e w' =>
  ∃ ev, e = .returned (.tuple #[.int .i64 n, ev]) ∧ ErrIs bad ev ∧ Ext w w'
noncomputable def pfV (L : LayP) (s : ByteArray) : Nat × Bool := open Classical in if h : ∃ r : Nat × Bool, PfC L s r.1 r.2 then h.choose else (0, false)
noncomputable def piV (L : LayP) (s : ByteArray) : Int × Bool := open Classical in if h : ∃ r : Int × Bool, PiC L s r.1 r.2 then h.choose else (0, false)
theorem pfV_c {L : LayP} {s : ByteArray} (h : ∃ f bad, PfC L s f bad) : PfC L s (pfV L s).1 (pfV L s).2 := by
  obtain ⟨f, bad, h⟩ := h
  have h' : ∃ r : Nat × Bool, PfC L s r.1 r.2 := ⟨(f, bad), h⟩
  unfold pfV
  rw [dif_pos h']
  exact h'.choose_spec
theorem piV_c {L : LayP} {s : ByteArray} (h : ∃ n bad, PiC L s n bad) : PiC L s (piV L s).1 (piV L s).2 := by
  obtain ⟨f, bad, h⟩ := h
  have h' : ∃ r : Int × Bool, PiC L s r.1 r.2 := ⟨(f, bad), h⟩
  unfold piV
  rw [dif_pos h']
  exact h'.choose_spec

def noS : ByteArray := ⟨#[]⟩
def trueS : ByteArray := ⟨#[116, 114, 117, 101]⟩
mutual
/-- What a value comes to; none: a number does not fit. -/
noncomputable def gd (L : LayP) : GV → Option PD
  | .mk k r l =>
    if k = 1 then (if (piV L r).2 then none else some (.mk 2 false (piV L r).1 0 noS []))
    else if k = 2 then (if (pfV L r).2 then none else some (.mk 3 false 0 (pfV L r).1 noS []))
    else if k = 5 then some (.mk 1 (r.toList == [116, 114, 117, 101]) 0 0 noS [])
    else if k = 6 then some (.mk 0 false 0 0 noS [])
    else if k = 8 then (match gdL L l with | none => none | some ps => some (.mk 5 false 0 0 noS (ps.map fun p => (noS, p.2))))
    else if k = 9 then (match gdL L l with | none => none | some ps => some (.mk 6 false 0 0 noS (insAll ps)))
    else some (.mk 4 false 0 0 r [])
noncomputable def gdL (L : LayP) : List (ByteArray × GV) → Option (List (ByteArray × PD))
  | [] => some []
  | (nm, v) :: t => match gd L v with
    | none => none
    | some p => match gdL L t with
      | none => none
      | some ps => some ((nm, p) :: ps)
end
/-- All members have come to something. -/
def Got (L : LayP) (l : List (ByteArray × GV)) (ps : List (ByteArray × PD)) : Prop := ps.length = l.length ∧ ∀ i (h : i < l.length) (h' : i < ps.length), gd L (l[i]).2 = some (ps[i]).2 ∧ (ps[i]).1 = (l[i]).1
theorem gdL_of {L : LayP} : ∀ {l : List (ByteArray × GV)} {ps : List (ByteArray × PD)}, Got L l ps → gdL L l = some ps
  | [], ps, h => by
    have : ps = [] := List.eq_nil_of_length_eq_zero h.1
    subst this; rfl
  | (nm, v) :: t, [], h => by have := h.1; simp at this
  | (nm, v) :: t, (a, p) :: ps, h => by
    have h0 := h.2 0 (by simp) (by simp)
    simp only [List.getElem_cons_zero] at h0
    have h1 : Got L t ps := ⟨by simpa using h.1, fun i hi hi' => h.2 (i + 1) (by simpa using hi) (by simpa using hi')⟩
    simp only [gdL, h0.1, gdL_of h1]
    rw [h0.2]
theorem gdL_none {L : LayP} : ∀ {l : List (ByteArray × GV)} {i : Nat} (h : i < l.length), gd L (l[i]).2 = none → gdL L l = none
  | (nm, v) :: t, 0, _, h => by simp only [List.getElem_cons_zero] at h; simp only [gdL, h]
  | (nm, v) :: t, i + 1, hi, h => by
    have := gdL_none (l := t) (i := i) (by simpa using hi) h
    simp only [gdL]
    split
    · rfl
    · rw [this]
/-- The first j members have come to something. -/
def GotTo (L : LayP) (l : List (ByteArray × GV)) (j : Nat) (ps : List (ByteArray × PD)) : Prop := ps.length = j ∧ j ≤ l.length ∧ ∀ i (h : i < l.length) (h' : i < ps.length), gd L (l[i]).2 = some (ps[i]).2 ∧ (ps[i]).1 = (l[i]).1
theorem GotTo.nil (L : LayP) (l : List (ByteArray × GV)) : GotTo L l 0 [] := ⟨rfl, Nat.zero_le _, fun i _ h => absurd h (by simp)⟩
theorem GotTo.snoc {L : LayP} {l : List (ByteArray × GV)} {j : Nat} {ps : List (ByteArray × PD)} (h : GotTo L l j ps) (hj : j < l.length) {p : PD} (hp : gd L (l[j]).2 = some p) : GotTo L l (j + 1) (ps ++ [((l[j]).1, p)]) := by
  obtain ⟨h1, h2, h3⟩ := h
  refine ⟨by simp [h1], hj, fun i hi hi' => ?_⟩
  by_cases e : i < ps.length
  · rw [List.getElem_append_left e]; exact h3 i hi e
  · have : i = j := by simp at hi'; omega
    subst this
    subst h1
    simp [hp]
theorem GotTo.all {L : LayP} {l : List (ByteArray × GV)} {j : Nat} {ps : List (ByteArray × PD)} (h : GotTo L l j ps) (hj : ¬ j < l.length) : gdL L l = some ps := gdL_of ⟨by have := h.1; have := h.2.1; omega, h.2.2⟩

end Go.Proofs.YtcfgjmdfpnfkjaaGreatDoor
set_option linter.unusedVariables false
set_option linter.unusedSimpArgs false
namespace Go.Proofs.YtcfgjmdfpnfkjaaGreatDoor
open Go.RowKit Pf
open Go.ChangeMaps (setBlock)

/-- An any that is read as data; its memory lies in blocks of N. -/
inductive Any (w : World) (N : Nat → Prop) : Value → PD → Prop
  | nul : Any w N .nilIface (.mk 0 false 0 0 noS [])
  | bool (b : Bool) : Any w N (.iface 4 (.bool b)) (.mk 1 b 0 0 noS [])
  | int (n : Int) : Any w N (.iface 2 (.int .i64 n)) (.mk 2 false n 0 noS [])
  | flt (f : Nat) : Any w N (.iface 44 (.float .f64 f)) (.mk 3 false 0 f noS [])
  | text (s : ByteArray) : Any w N (.iface 9 (.string s)) (.mk 4 false 0 0 s [])
  | list (l : List (ByteArray × PD)) (A : Option Addr) (c : Nat) (x : Nat → Value) : l.length ≤ 1048576 →
      (∀ i, i < l.length → ∃ ad, A = some ad ∧ N ad.block ∧ w.cell? (ad.add i) = some (x i)) → (∀ i (h : i < l.length), Any w N (x i) (l[i]).2) →
      Any w N (.iface 93 (.slice A l.length c)) (.mk 5 false 0 0 noS (l.map fun p => (noS, p.2)))
  | obj (l : List (ByteArray × PD)) (r : Nat) (es : Array MapEntry) (clock : Nat) (q : MapEntry → Nat) : l.length ≤ 1048576 → Rising l → N r → w.heap[r]? = some (.map es clock) → Ents es clock →
      (∀ e ∈ es.toList, ∃ h : q e < l.length, e.key = .string (l[q e]).1) → (∀ e ∈ es.toList, ∀ h : q e < l.length, Any w N e.val (l[q e]).2) →
      (∀ i (h : i < l.length), ∃ e ∈ es.toList, e.key = .string (l[i]).1) → Any w N (.iface 85 (.map (some r))) (.mk 6 false 0 0 noS l)

theorem cell_at_block {w w' : World} {a : Addr} {v : Value} (h : w.cell? a = some v) (e : w'.heap[a.block]? = w.heap[a.block]?) : w'.cell? a = some v := by
  rw [← h]; simp only [World.cell?, e]
theorem add_at_block (a : Addr) (i : Nat) : (a.add i).block = a.block := by
  unfold Addr.add; split <;> rfl
/-- What lies outside of N may have changed. -/
theorem Any.keep {w w' : World} {N N' : Nat → Prop} {x : Value} {v : PD} (h : Any w N x v) (e : ∀ k, N k → k < w.heap.size → w'.heap[k]? = w.heap[k]? ∧ N' k) : Any w' N' x v := by
  induction h with
  | nul => exact .nul
  | bool b => exact .bool b
  | int n => exact .int n
  | flt f => exact .flt f
  | text s => exact .text s
  | list l A c x hl hc _ ih =>
    refine .list l A c x hl (fun i hi => ?_) ih
    obtain ⟨ad, ha, hN, hcell⟩ := hc i hi
    have hlt := World.block_lt_of_cell? w _ hcell
    rw [add_at_block] at hlt
    obtain ⟨e1, e2⟩ := e _ hN hlt
    exact ⟨ad, ha, e2, cell_at_block hcell (by rw [add_at_block]; exact e1)⟩
  | obj l r es clock q hl hr hN hb F hk _ hn ih =>
    obtain ⟨e1, e2⟩ := e _ hN (Array.getElem?_eq_some_iff.1 hb).1
    exact .obj l r es clock q hl hr e2 (by rw [e1]; exact hb) F hk ih hn
theorem Any.ext {w w' : World} {N : Nat → Prop} {x : Value} {v : PD} (h : Any w N x v) (e : Ext w w') : Any w' N x v := h.keep fun k hN hk => ⟨e.block k hk, hN⟩
theorem Any.shape {w : World} {N : Nat → Prop} {x : Value} {v : PD} (h : Any w N x v) : x = .nilIface ∨ ∃ d y, x = .iface d y := by
  cases h
  · exact .inl rfl
  all_goals exact .inr ⟨_, _, rfl⟩
theorem Any.one {w : World} {N : Nat → Prop} {x : Value} {v : PD} (h : Any w N x v) : x.oneCell' = true := by cases h <;> rfl

/-- What Value.Value hands back for a value. -/
def VaR (L : LayP) (v : GV) (w : World) (e : Ending) (w' : World) : Prop :=
  ∃ x ev, e = .returned (.tuple #[x, ev]) ∧ Ext w w' ∧ ErrIs (gd L v).isNone ev ∧ ∀ p, gd L v = some p → Any w' (fun k => w.heap.size ≤ k) x p

end Go.Proofs.YtcfgjmdfpnfkjaaGreatDoor
set_option linter.unusedVariables false
set_option linter.unusedSimpArgs false
namespace Go.Proofs.YtcfgjmdfpnfkjaaGreatDoor
open Go.RowKit Pf

def SvR (L : LayP) (v : GV) (w : World) (e : Ending) (w' : World) : Prop :=
  ∃ (k : Int) (b : Bool) (n : Int) (f : Nat) (s : ByteArray) (A : Option Addr) (len c : Nat) (ok : Bool), e = .returned (.tuple #[.agg (dv k b n f s A len c), .bool ok]) ∧ Ext w w' ∧ ok = (gd L v).isSome ∧
    ∀ p, gd L v = some p → p.At w' (fun k => w.heap.size ≤ k) (dv k b n f s A len c).toList
def SvC (L : LayP) (v : GV) : Prop := ∀ (cs : List Value) (w : World), Lay L w → 13 ≤ w.heap.size → v.At w cs → v.Fit → Calls Tryz.prog 7 #[.agg cs.toArray] w (SvR L v w)
/-- What is laid from the shelf, and what it comes to. -/
structure Shelf : Prop where
  len : LenC
  err : ErrC
  int : ∀ (L : LayP) (s : ByteArray), s.size ≤ 1048576 → ∃ n bad, PiC L s n bad
theorem svR_some {L : LayP} {v : GV} {w w' : World} {k : Int} {b : Bool} {n : Int} {f : Nat} {s : ByteArray} (h : gd L v = some (.mk k b n f s [])) (he : Ext w w') :
    SvR L v w (.returned (.tuple #[.agg (dv k b n f s none 0 0), .bool true])) w' :=
  ⟨k, b, n, f, s, none, 0, 0, true, rfl, he, by rw [h]; rfl, fun p hp => by rw [h] at hp; cases hp; simp only [PD.At]; exact ⟨none, 0, rfl, by simp, by simp [PD.All]⟩⟩
theorem svR_none {L : LayP} {v : GV} {w w' : World} (h : gd L v = none) (he : Ext w w') (k : Int) (b : Bool) (n : Int) (f : Nat) (s : ByteArray) (A : Option Addr) (len c : Nat) :
    SvR L v w (.returned (.tuple #[.agg (dv k b n f s A len c), .bool false])) w' :=
  ⟨k, b, n, f, s, A, len, c, false, rfl, he, by rw [h]; rfl, fun p hp => by rw [h] at hp; cases hp⟩

theorem six {w1 : World} {b : Nat} {a0 a1 a2 a3 a4 a5 : Value} {t : TypeId} (h : w1.heap[b]? = some (.cells #[a0, a1, a2, a3, a4, a5] t (0, 0))) (v0 v1 v2 v3 v4 v5 : Value) :
    ((((((w1.setCell ⟨b, 0, none⟩ v0).setCell ⟨b, 1, none⟩ v1).setCell ⟨b, 2, none⟩ v2).setCell ⟨b, 3, none⟩ v3).setCell ⟨b, 4, none⟩ v4).setCell ⟨b, 5, none⟩ v5).heap[b]? = some (.cells #[v0, v1, v2, v3, v4, v5] t (0, 0)) :=
  box_set (box_set (box_set (box_set (box_set (box_set h 0 v0) 1 v1) 2 v2) 3 v3) 4 v4) 5 v5
theorem drew_heap (w : World) : w.drew.heap = w.heap := rfl
theorem six_drew {w1 : World} {b : Nat} {a0 a1 a2 a3 a4 a5 : Value} {t : TypeId} (h : w1.heap[b]? = some (.cells #[a0, a1, a2, a3, a4, a5] t (0, 0))) (v0 v1 v2 v3 v4 v5 : Value) :
    (((((((w1.setCell ⟨b, 0, none⟩ v0).setCell ⟨b, 1, none⟩ v1).setCell ⟨b, 2, none⟩ v2).setCell ⟨b, 3, none⟩ v3).setCell ⟨b, 4, none⟩ v4).setCell ⟨b, 5, none⟩ v5).drew).heap[b]? = some (.cells #[v0, v1, v2, v3, v4, v5] t (0, 0)) := by
  rw [drew_heap]; exact six h v0 v1 v2 v3 v4 v5
theorem six_ext {w w1 : World} {b : Nat} (h : Ext w w1) (hb : w.heap.size ≤ b) (v0 v1 v2 v3 v4 v5 : Value) :
    Ext w ((((((w1.setCell ⟨b, 0, none⟩ v0).setCell ⟨b, 1, none⟩ v1).setCell ⟨b, 2, none⟩ v2).setCell ⟨b, 3, none⟩ v3).setCell ⟨b, 4, none⟩ v4).setCell ⟨b, 5, none⟩ v5) :=
  (((((h.setCell hb _).setCell hb _).setCell hb _).setCell hb _).setCell hb _).setCell hb _
set_option maxRecDepth 100000 in
theorem sv_fin {Q : Ending → World → Prop} {a : Act} {W : World} {b : Nat} {k : Int} {bl : Bool} {n : Int} {f : Nat} {s : ByteArray} {A : Option Addr} {len c : Nat} {ok : Bool}
    (hb : W.heap[b]? = some (.cells (dv k bl n f s A len c) 31 (0, 0))) (ha : a.tmps[2]? = some (.pointer (some ⟨b, 0, none⟩))) (hok : a.tmps[3]? = some (.bool ok)) (hd : a.defers = [])
    (h : Q (.returned (.tuple #[.agg (dv k bl n f s A len c), .bool ok])) W) : bodyPost Tryz.prog Tryz.f7 Q .ret a W := by
  have fc := box_cell hb
  exact bodyPost_ret (v := .tuple #[.agg (dv k bl n f s A len c), .bool ok]) (by simp [results, Tryz.results7, go_sem, ha, hok, fc]) hd h

set_option maxRecDepth 100000 in
set_option maxHeartbeats 4000000 in
theorem sv_null (L : LayP) (r : ByteArray) (A : Option Addr) (c : Nat) (w : World) : Calls Tryz.prog 7 #[.agg (gv 6 r A 0 c)] w (SvR L (.mk 6 r []) w) := by
  have hg : Sd (gd L (.mk 6 r []) = some (.mk 0 false 0 0 noS [])) := ⟨by simp [gd]⟩
  go_enter Tryz.func7, Tryz.ntmps7
  go_wp2_with fail
  refine bodyPost_ret (v := .tuple #[.agg (dv 0 false 0 0 noS none 0 0), .bool true]) (by simp [results, Tryz.results7, go_sem]; rfl) rfl (svR_some hg.out ?_)
  exact ((Ext.refl _).alloc _).alloc _

set_option maxRecDepth 100000 in
set_option maxHeartbeats 4000000 in
theorem sv_text (L : LayP) (k : Int) (r : ByteArray) (A : Option Addr) (c : Nat) (w : World) (hk : k = 3 ∨ k = 4 ∨ k = 7) : Calls Tryz.prog 7 #[.agg (gv k r A 0 c)] w (SvR L (.mk k r []) w) := by
  have hg : Sd (gd L (.mk k r []) = some (.mk 4 false 0 0 r [])) := ⟨by rcases hk with rfl | rfl | rfl <;> simp [gd]⟩
  rcases hk with rfl | rfl | rfl
  all_goals
    go_enter Tryz.func7, Tryz.ntmps7
    go_wp2_with fail
    refine bodyPost_ret (v := .tuple #[.agg (dv 4 false 0 0 r none 0 0), .bool true]) (by simp [results, Tryz.results7, go_sem]) rfl (svR_some hg.out ?_)
    exact ((Ext.refl _).alloc _).alloc _

set_option maxRecDepth 100000 in
set_option maxHeartbeats 4000000 in
theorem sv_bool (L : LayP) (r : ByteArray) (A : Option Addr) (c : Nat) (w : World) : Calls Tryz.prog 7 #[.agg (gv 5 r A 0 c)] w (SvR L (.mk 5 r []) w) := by
  have hg : Sd (gd L (.mk 5 r []) = some (.mk 1 (r.toList == [116, 114, 117, 101]) 0 0 noS [])) := ⟨by simp [gd]⟩
  go_enter Tryz.func7, Tryz.ntmps7
  go_wp2_with fail
  refine bodyPost_ret (v := .tuple #[.agg (dv 1 (r.toList == [116, 114, 117, 101]) 0 0 noS none 0 0), .bool true]) (by simp [results, Tryz.results7, go_sem]; rfl) rfl (svR_some hg.out ?_)
  exact ((Ext.refl _).alloc _).alloc _

set_option maxRecDepth 100000 in
set_option maxHeartbeats 4000000 in
theorem sv_int (HS : Sd Shelf) (L : LayP) (r : ByteArray) (A : Option Addr) (c : Nat) (w : World) (hr : r.size ≤ 1048576) (hL : Lay L w) (hw : 13 ≤ w.heap.size) : Calls Tryz.prog 7 #[.agg (gv 1 r A 0 c)] w (SvR L (.mk 1 r []) w) := by
  have hg : Sd (gd L (.mk 1 r []) = if (piV L r).2 then none else some (.mk 2 false (piV L r).1 0 noS [])) := ⟨by simp [gd]⟩
  have HP := Sd.mk (piV_c (HS.out.int L r hr))
  generalize piV L r = X at hg HP
  obtain ⟨n, bad⟩ := X
  go_enter Tryz.func7, Tryz.ntmps7
  go_wp2_with fail
  have HE0 := Sd.mk (((Ext.refl w).alloc (Obj.cells (gv 1 r A 0 c) 24)).alloc (Obj.cells #[Value.int IntKind.i64 0, Value.bool false, Value.int IntKind.i64 0, Value.int IntKind.u64 0, Value.string { data := #[] }, Value.slice none 0 0] 31))
  have HB := Sd.mk (box_alloc (w.alloc (Obj.cells (gv 1 r A 0 c) 24)) (Obj.cells #[Value.int IntKind.i64 0, Value.bool false, Value.int IntKind.i64 0, Value.int IntKind.u64 0, Value.string { data := #[] }, Value.slice none 0 0] 31))
  refine (HP.out _ (hL.ext HE0.out) (Nat.le_trans hw HE0.out.size)).mono ?_
  rintro e w1 ⟨ev, rfl, hev, he⟩
  have HE := Sd.mk (HE0.out.trans he)
  have HB1 : Sd (w1.heap[w.heap.size + 1]? = some (.cells #[Value.int IntKind.i64 0, Value.bool false, Value.int IntKind.i64 0, Value.int IntKind.u64 0, Value.string { data := #[] }, Value.slice none 0 0] 31 (0, 0))) := ⟨by have := box_ext HB.out he; simpa using this⟩
  clear he
  rcases hev with ⟨rfl, rfl⟩ | ⟨rfl, x, rfl⟩
  · have f := box_cell HB1.out
    have fz := box_frozen HB1.out
    go_wp2_with fail
    go_region_law (fail)
    all_goals
      go_wp2_with fail
      refine sv_fin (b := w.heap.size + 1) (k := 2) (bl := false) (n := n) (f := 0) (s := ⟨#[]⟩) (A := none) (len := 0) (c := 0) (ok := true) ?_ rfl rfl rfl ?_
      · exact six_drew HB1.out _ _ _ _ _ _
      · exact svR_some hg.out ((six_ext HE.out (by omega) _ _ _ _ _ _).drewN 1)
  · have f := box_cell HB1.out
    have fz := box_frozen HB1.out
    go_wp2_with fail
    go_region_law (fail)
    all_goals
      go_wp2_with fail
      refine sv_fin (b := w.heap.size + 1) (k := 2) (bl := false) (n := n) (f := 0) (s := ⟨#[]⟩) (A := none) (len := 0) (c := 0) (ok := false) ?_ rfl rfl rfl ?_
      · exact six_drew HB1.out _ _ _ _ _ _
      · exact svR_none hg.out ((six_ext HE.out (by omega) _ _ _ _ _ _).drewN 1) _ _ _ _ _ _ _ _

set_option maxRecDepth 100000 in
set_option maxHeartbeats 4000000 in
theorem sv_float (HS : Sd Shelf) (L : LayP) (r : ByteArray) (A : Option Addr) (c : Nat) (w : World) (hn : NumS r) (hr : r.size ≤ 1048576) (hL : Lay L w) (hw : 13 ≤ w.heap.size) : Calls Tryz.prog 7 #[.agg (gv 2 r A 0 c)] w (SvR L (.mk 2 r []) w) := by
  have hg : Sd (gd L (.mk 2 r []) = if (pfV L r).2 then none else some (.mk 3 false 0 (pfV L r).1 noS [])) := ⟨by simp [gd]⟩
  have HP := Sd.mk (pfV_c (pf_e ⟨HS.out.len⟩ ⟨HS.out.err⟩ L r hn hr))
  generalize pfV L r = X at hg HP
  obtain ⟨n, bad⟩ := X
  have h17 := run17
  go_enter Tryz.func7, Tryz.ntmps7
  go_wp2_with fail
  have HE0 := Sd.mk (((Ext.refl w).alloc (Obj.cells (gv 2 r A 0 c) 24)).alloc (Obj.cells #[Value.int IntKind.i64 0, Value.bool false, Value.int IntKind.i64 0, Value.int IntKind.u64 0, Value.string { data := #[] }, Value.slice none 0 0] 31))
  have HB := Sd.mk (box_alloc (w.alloc (Obj.cells (gv 2 r A 0 c) 24)) (Obj.cells #[Value.int IntKind.i64 0, Value.bool false, Value.int IntKind.i64 0, Value.int IntKind.u64 0, Value.string { data := #[] }, Value.slice none 0 0] 31))
  refine (HP.out _ (hL.ext HE0.out) (Nat.le_trans hw HE0.out.size)).mono ?_
  rintro e w1 ⟨ev, rfl, hev, he⟩
  have HE := Sd.mk (HE0.out.trans he)
  have HB1 : Sd (w1.heap[w.heap.size + 1]? = some (.cells #[Value.int IntKind.i64 0, Value.bool false, Value.int IntKind.i64 0, Value.int IntKind.u64 0, Value.string { data := #[] }, Value.slice none 0 0] 31 (0, 0))) := ⟨by have := box_ext HB.out he; simpa using this⟩
  clear he
  rcases hev with ⟨rfl, rfl⟩ | ⟨rfl, x, rfl⟩
  · have f := box_cell HB1.out
    have fz := box_frozen HB1.out
    go_wp2_with fail
    go_region_law (fail)
    all_goals
      go_wp2_with fail
      refine sv_fin (b := w.heap.size + 1) (k := 3) (bl := false) (n := 0) (f := n) (s := ⟨#[]⟩) (A := none) (len := 0) (c := 0) (ok := true) ?_ rfl rfl rfl ?_
      · exact six_drew HB1.out _ _ _ _ _ _
      · exact svR_some hg.out ((six_ext HE.out (by omega) _ _ _ _ _ _).drewN 1)
  · have f := box_cell HB1.out
    have fz := box_frozen HB1.out
    go_wp2_with fail
    go_region_law (fail)
    all_goals
      go_wp2_with fail
      refine sv_fin (b := w.heap.size + 1) (k := 3) (bl := false) (n := 0) (f := n) (s := ⟨#[]⟩) (A := none) (len := 0) (c := 0) (ok := false) ?_ rfl rfl rfl ?_
      · exact six_drew HB1.out _ _ _ _ _ _
      · exact svR_none hg.out ((six_ext HE.out (by omega) _ _ _ _ _ _).drewN 1) _ _ _ _ _ _ _ _

end Go.Proofs.YtcfgjmdfpnfkjaaGreatDoor
set_option linter.unusedVariables false
set_option linter.unusedSimpArgs false
namespace Go.Proofs.YtcfgjmdfpnfkjaaGreatDoor
open Go.RowKit Pf

/-- Blocks from a base on, but for a row's own one. -/
def NK (base : Nat) (v : Value) (k : Nat) : Prop := base ≤ k ∧ v.ownBlock ≠ some k
abbrev zkid : Value := .agg #[.string ⟨#[]⟩, .int .i64 0, .bool false, .int .i64 0, .int .u64 0, .string ⟨#[]⟩, .slice none 0 0]
theorem info49 : (Tryz.prog.info? 49).map (fun i => (i.zero, i.size, i.bytes)) = some (some zkid, 7, 88) := by kernel_rfl
abbrev z31 : Array Value := #[Value.int IntKind.i64 0, Value.bool false, Value.int IntKind.i64 0, Value.int IntKind.u64 0, Value.string { data := #[] }, Value.slice none 0 0]
abbrev kidC (nm : ByteArray) (k : Int) (b : Bool) (n : Int) (f : Nat) (s : ByteArray) (A : Option Addr) (len c : Nat) : Array Value := #[.string nm, .int .i64 k, .bool b, .int .i64 n, .int .u64 f, .string s, .slice A len c]
theorem cells_at {w : World} (cs : Array Value) (t : TypeId) : ∀ (j : Nat) u, cs.toList[j]? = some u → (w.alloc (.cells cs t (0, 0))).cell? ((⟨w.heap.size, 0, none⟩ : Addr).add j) = some u := by
  intro j u h
  have e : (⟨w.heap.size, 0, none⟩ : Addr).add j = ⟨w.heap.size, j, none⟩ := by unfold Addr.add; split <;> simp_all
  rw [e, box_cell (box_alloc w _)]
  simpa using h

/-- Behind an append: the rows that were there. -/
theorem Rows.grown {w w2 : World} {base H g n cap : Nat} {v : Value} {l : List (ByteArray × PD)} {xs : List Value} (h : Rows w (NK base v) l xs) (hg : w.grownBy w2 v.ownBlock) (hat : v.ownBlock = some g ∨ g = H) (hH : w.heap.size = H) :
    Rows w2 (NK base (.slice (some ⟨g, 0, none⟩) n cap)) l xs := h.keep fun k ⟨h1, h2⟩ hk => ⟨hg.block k hk (fun e => h2 e.symm), h1, fun e => by
  simp only [Value.ownBlock] at e
  have e' : g = k := by simpa using e
  subst e'
  rcases hat with h | h
  · exact h2 h
  · omega⟩
theorem own_lt {w : World} {base : Nat} {t : TypeId} {sz n : Nat} {v : Value} {xs : List Value} (h : w.ownsRow base t sz v n xs) : ∀ k, v.ownBlock = some k → base ≤ k ∧ k < w.heap.size := fun k hk => h.lt k hk
/-- What a call has made lies beside the row. -/
theorem PD.At.beside {w1 : World} {base : Nat} {v : Value} {p : PD} {cs : List Value} {sz : Nat} (h : p.At w1 (fun k => sz ≤ k) cs) (hb : base ≤ sz) (hv : ∀ k, v.ownBlock = some k → k < sz) : p.At w1 (NK base v) cs :=
  h.keep fun k hk _ => ⟨rfl, Nat.le_trans hb hk, fun e => by have := hv k e; omega⟩
/-- A finished row as data's kids. -/
theorem rows_done {w : World} {base : Nat} {tv : Value} {l : List (ByteArray × PD)} {xs : List Value} (ho : w.ownsRow base 49 7 tv l.length xs) (hr : Rows w (NK base tv) l xs) :
    ∃ A c, tv = .slice A l.length c ∧ PD.All w (fun k => base ≤ k) A 0 l := by
  obtain ⟨hn, h⟩ := ho
  rcases h with ⟨rfl, h0⟩ | ⟨g, cap, cur, rfl, h2, h3, h4, h5, h6, h7⟩
  · have hl : l = [] := List.eq_nil_of_length_eq_zero h0
    subst hl
    exact ⟨none, 0, rfl, by simp [PD.All]⟩
  · refine ⟨_, cap, rfl, ?_⟩
    have hr' : Rows w (fun k => base ≤ k) l xs := hr.keep fun k hk _ => ⟨rfl, hk.1⟩
    refine rows_all (show base ≤ g from h2) h3 hr' fun k hk => ?_
    have hk2 : k < (cur.toList.take (l.length * 7)).length := by rw [h7]; exact hk
    have e : (cur.toList.take (l.length * 7))[k]? = xs[k]? := by rw [h7]
    rw [List.getElem?_eq_getElem hk, List.getElem?_take] at e
    rw [List.length_take] at hk2
    rw [if_pos (by omega)] at e
    rw [Nat.zero_mul, Nat.zero_add, ← Array.getElem?_toList]
    exact e

theorem gd8_some {L : LayP} {r : ByteArray} {l : List (ByteArray × GV)} {ps : List (ByteArray × PD)} (h : gdL L l = some ps) : gd L (.mk 8 r l) = some (.mk 5 false 0 0 noS (ps.map fun p => (noS, p.2))) := by simp [gd, h]
theorem gd8_none {L : LayP} {r : ByteArray} {l : List (ByteArray × GV)} (h : gdL L l = none) : gd L (.mk 8 r l) = none := by simp [gd, h]
theorem gd9_some {L : LayP} {r : ByteArray} {l : List (ByteArray × GV)} {ps : List (ByteArray × PD)} (h : gdL L l = some ps) : gd L (.mk 9 r l) = some (.mk 6 false 0 0 noS (insAll ps)) := by simp [gd, h]
theorem gd9_none {L : LayP} {r : ByteArray} {l : List (ByteArray × GV)} (h : gdL L l = none) : gd L (.mk 9 r l) = none := by simp [gd, h]
theorem box_alloc3 (w : World) (o o' o'' : Obj) : (((w.alloc o).alloc o').alloc o'').heap[w.heap.size + 2]? = some o'' := by
  have := box_alloc2 (w.alloc o) o' o''
  simpa using this
theorem owns_nil (w : World) (base : Nat) (t : TypeId) (sz : Nat) : w.ownsRow base t sz (.slice none 0 0) 0 [] := ⟨by simp, Or.inl ⟨rfl, rfl⟩⟩

/-- Behind an append to a row from a base on: what lies below. -/
theorem grow_pack {w W w4 : World} {base : Nat} {tv : Value} {n sz : Nat} {t : TypeId} {xs : List Value} (he : Ext w W) (hb : w.heap.size ≤ base) (ho : W.ownsRow base t sz tv n xs) (hg : W.grownBy w4 tv.ownBlock) :
    Ext w w4 ∧ ∀ b o, b < base → W.heap[b]? = some o → w4.heap[b]? = some o :=
  ⟨he.grown hg hb (owns_base ho), fun b o hlt h => box_grown h hg fun k hk e => by have := owns_base ho k hk; omega⟩
/-- Behind the six stores to a result that lies below. -/
theorem All.six {w : World} {N N' : Nat → Prop} {b : Nat} {A : Option Addr} {l : List (ByteArray × PD)} {i : Nat} (h : PD.All w N A i l) (hN : ∀ k, N k → b ≠ k ∧ N' k) (v0 v1 v2 v3 v4 v5 : Value) :
    PD.All ((((((w.setCell ⟨b, 0, none⟩ v0).setCell ⟨b, 1, none⟩ v1).setCell ⟨b, 2, none⟩ v2).setCell ⟨b, 3, none⟩ v3).setCell ⟨b, 4, none⟩ v4).setCell ⟨b, 5, none⟩ v5) N' A i l :=
  h.keep fun k hk _ => ⟨by
    have hne := (hN k hk).1
    have hne' : k ≠ b := fun e => hne e.symm
    rw [Below.heap_setCell _ _ _ _ (by simpa using hne'), Below.heap_setCell _ _ _ _ (by simpa using hne'), Below.heap_setCell _ _ _ _ (by simpa using hne'), Below.heap_setCell _ _ _ _ (by simpa using hne'), Below.heap_setCell _ _ _ _ (by simpa using hne'), Below.heap_setCell _ _ _ _ (by simpa using hne')], (hN k hk).2⟩
theorem svR_kids {L : LayP} {v : GV} {w w' : World} {k : Int} {ps : List (ByteArray × PD)} {A : Option Addr} {c : Nat} (h : gd L v = some (.mk k false 0 0 noS ps)) (he : Ext w w') (hl : ps.length ≤ 1048576) (hA : PD.All w' (fun k => w.heap.size ≤ k) A 0 ps) :
    SvR L v w (.returned (.tuple #[.agg (dv k false 0 0 ⟨#[]⟩ A ps.length c), .bool true])) w' :=
  ⟨k, false, 0, 0, ⟨#[]⟩, A, ps.length, c, true, rfl, he, by rw [h]; rfl, fun p hp => by rw [h] at hp; cases hp; simp only [PD.At]; exact ⟨A, c, rfl, hl, hA⟩⟩
theorem Rows.setCell {w : World} {base b : Nat} {v : Value} {l : List (ByteArray × PD)} {xs : List Value} (h : Rows w (NK base v) l xs) (hb : b < base) (i : Nat) (x : Value) : Rows (w.setCell ⟨b, i, none⟩ x) (NK base v) l xs :=
  h.keep fun k hk _ => ⟨Below.heap_setCell _ _ _ _ (by have := hk.1; simp; omega), hk⟩

set_option maxRecDepth 100000 in
set_option maxHeartbeats 8000000 in
theorem sv_list (L : LayP) (r : ByteArray) (l : List (ByteArray × GV)) (ih : ∀ j (hj : j < l.length), SvC L (l[j]).2) (A : Option Addr) (c : Nat) (w : World) (hl : l.length ≤ 1048576) (hA : GV.All w A 0 l)
    (hf : ∀ i (h : i < l.length), GV.Fit (l[i]).2) (hL : Lay L w) (hw : 13 ≤ w.heap.size) : Calls Tryz.prog 7 #[.agg (gv 8 r A l.length c)] w (SvR L (.mk 8 r l) w) := by
  obtain ⟨i0, hi, hz0, hz1, hz2⟩ := info_parts info49
  have HA := Sd.mk hA
  have IH := Sd.mk ih
  have HF := Sd.mk hf
  have HL := Sd.mk hL
  clear hA ih hf hL
  go_enter Tryz.func7, Tryz.ntmps7
  go_wp2_with fail
  go_loopg [55] l.length (fun g v55 wr => ∃ (j : Nat) (ps : List (ByteArray × PD)) (xs : List Value) (tv : Value), v55 = .int .i64 j ∧ g + j = l.length ∧ Sd (Ext w wr) ∧ Sd (wr.heap[w.heap.size]? = some (.cells (gv 8 r A l.length c) 24 (0, 0))) ∧
    Sd (wr.heap[w.heap.size + 1]? = some (.cells z31 31 (0, 0))) ∧ Sd (wr.heap[w.heap.size + 1 + 1]? = some (.cells #[.int .i64 5, .bool false, .int .i64 0, .int .u64 0, .string ⟨#[]⟩, tv] 31 (0, 0))) ∧
    Sd (wr.ownsRow (w.heap.size + 3) 49 7 tv j xs) ∧ Sd (Rows wr (NK (w.heap.size + 3) tv) (ps.map fun p => (noS, p.2)) xs) ∧ Sd (GotTo L l j ps))
  case atStart =>
    exact ⟨0, [], [], .slice none 0 0, rfl, by omega, ⟨(((Ext.refl _).alloc _).alloc _).alloc _⟩, ⟨box_keep (box_keep (box_alloc _ _) _) _⟩, ⟨box_keep (box_alloc2 _ _ _) _⟩, ⟨box_alloc3 _ _ _ _⟩, ⟨owns_nil _ _ _ _⟩, ⟨rfl⟩, ⟨GotTo.nil _ _⟩⟩
  case round =>
    obtain ⟨j, ps, xs, tv, rfl, hg, HE, HB1, HB2, HB3, HO, HR, HT⟩ := hrel
    have f := box_cell HB1.out
    by_cases hj : j < l.length
    · obtain ⟨ad, B, c', rfl, e0, hn, e1, e2, e3, hAt⟩ := (HA.out.ext HE.out).elem j hj
      have HAt := Sd.mk hAt
      clear hAt
      go_wp2_with fail
      have HW := Sd.mk ((Ext.refl wr).alloc (.cells #[.string (l[j]).1, .int .i64 (l[j]).2.kind, .string (l[j]).2.raw, .slice B (l[j]).2.kids.length c'] 39))
      refine (IH.out j hj _ _ (HL.out.ext (HE.out.trans HW.out)) (Nat.le_trans hw (HE.out.trans HW.out).size) (HAt.out.ext HW.out) (HF.out j hj)).mono ?_
      rintro e w2 ⟨k, b, n, fl, s, A2, len, cp, ok, rfl, he, hok, hp⟩
      have HW2 := Sd.mk (HW.out.trans he)
      have HE2 := Sd.mk (HE.out.trans HW2.out)
      have HOK := Sd.mk hok
      have HP := Sd.mk hp
      have HB1' := Sd.mk (box_ext HB1.out HW2.out)
      have HB2' := Sd.mk (box_ext HB2.out HW2.out)
      have HB3' := Sd.mk (box_ext HB3.out HW2.out)
      have HO' := Sd.mk (owns_ext HO.out HW2.out)
      have HR' := Sd.mk (HR.out.ext HW2.out)
      have he2s := he.size
      clear he hok hp f e0 e1 e2 e3
      cases ok
      · have HN : Sd (gd L (.mk 8 r l) = none) := ⟨gd8_none (gdL_none hj (by have := HOK.out; cases hgd : gd L (l[j]).2 with | none => rfl | some x => rw [hgd] at this; cases this))⟩
        have fA2 : ∀ i o, (w2.alloc o).cell? ⟨w.heap.size + 1, i, none⟩ = z31[i]? := fun i o => box_cell (box_keep HB2'.out o) i
        have fzA2 : ∀ i o, (w2.alloc o).frozen? ⟨w.heap.size + 1, i, none⟩ = false := fun i o => box_frozen (box_keep HB2'.out o) i
        have HBx := Sd.mk (box_keep HB2'.out (.cells #[.int .i64 k, .bool b, .int .i64 n, .int .u64 fl, .string s, .slice A2 len cp] 31))
        have HEx := Sd.mk (HE2.out.alloc (.cells #[.int .i64 k, .bool b, .int .i64 n, .int .u64 fl, .string s, .slice A2 len cp] 31))
        go_wp2_with fail
        refine sv_fin (b := w.heap.size + 1) (k := 0) (bl := false) (n := 0) (f := 0) (s := ⟨#[]⟩) (A := none) (len := 0) (c := 0) (ok := false) ?_ rfl rfl rfl ?_
        · exact six HBx.out _ _ _ _ _ _
        · exact svR_none HN.out (six_ext HEx.out (by omega) _ _ _ _ _ _) _ _ _ _ _ _ _ _
      · obtain ⟨p, hgp⟩ : ∃ p, gd L (l[j]).2 = some p := by
          have := HOK.out
          cases hgd : gd L (l[j]).2 with
          | none => rw [hgd] at this; cases this
          | some x => exact ⟨x, rfl⟩
        have HPA := Sd.mk (HP.out p hgp)
        have HT2 := Sd.mk (HT.out.snoc hj hgp)
        have fA3 : ∀ i o, (w2.alloc o).cell? ⟨w.heap.size + 1 + 1, i, none⟩ = (#[.int .i64 5, .bool false, .int .i64 0, .int .u64 0, .string ⟨#[]⟩, tv] : Array Value)[i]? := fun i o => box_cell (box_keep HB3'.out o) i
        have hlt2 : w.heap.size + 3 ≤ wr.heap.size := by
          have h3 := (Array.getElem?_eq_some_iff.1 HB3.out).1
          omega
        have hsz2 : wr.heap.size + 1 ≤ w2.heap.size := by have := he2s; simpa using this
        clear hgp HOK HP
        have OW : Sd (((w2.alloc (.cells #[.int .i64 k, .bool b, .int .i64 n, .int .u64 fl, .string s, .slice A2 len cp] 31)).alloc (.cells (kidC ⟨#[]⟩ k b n fl s A2 len cp) 49)).ownsRow (w.heap.size + 3) 49 7 tv j xs) := ⟨World.ownsRow.alloc (World.ownsRow.alloc HO'.out _) _⟩
        have HEW : Sd (Ext w ((w2.alloc (.cells #[.int .i64 k, .bool b, .int .i64 n, .int .u64 fl, .string s, .slice A2 len cp] 31)).alloc (.cells (kidC ⟨#[]⟩ k b n fl s A2 len cp) 49))) := ⟨(HE2.out.alloc _).alloc _⟩
        have HB1W : Sd (((w2.alloc (.cells #[.int .i64 k, .bool b, .int .i64 n, .int .u64 fl, .string s, .slice A2 len cp] 31)).alloc (.cells (kidC ⟨#[]⟩ k b n fl s A2 len cp) 49)).heap[w.heap.size]? = _) := ⟨box_keep (box_keep HB1'.out _) _⟩
        have HB2W : Sd (((w2.alloc (.cells #[.int .i64 k, .bool b, .int .i64 n, .int .u64 fl, .string s, .slice A2 len cp] 31)).alloc (.cells (kidC ⟨#[]⟩ k b n fl s A2 len cp) 49)).heap[w.heap.size + 1]? = _) := ⟨box_keep (box_keep HB2'.out _) _⟩
        have HB3W : Sd (((w2.alloc (.cells #[.int .i64 k, .bool b, .int .i64 n, .int .u64 fl, .string s, .slice A2 len cp] 31)).alloc (.cells (kidC ⟨#[]⟩ k b n fl s A2 len cp) 49)).heap[w.heap.size + 1 + 1]? = _) := ⟨box_keep (box_keep HB3'.out _) _⟩
        have HRW : Sd (Rows ((w2.alloc (.cells #[.int .i64 k, .bool b, .int .i64 n, .int .u64 fl, .string s, .slice A2 len cp] 31)).alloc (.cells (kidC ⟨#[]⟩ k b n fl s A2 len cp) 49)) (NK (w.heap.size + 3) tv) ((ps ++ [((l[j]).1, p)]).map fun p => (noS, p.2)) (xs ++ (kidC ⟨#[]⟩ k b n fl s A2 len cp).toList)) := ⟨by
          rw [List.map_append]
          have hbes : p.At w2 (NK (w.heap.size + 3) tv) (dv k b n fl s A2 len cp).toList := HPA.out.beside (by simp; omega) (fun k hk => by have := (own_lt HO.out k hk).2; simp; omega)
          exact ((HR'.out.append (Rows.one (nm := noS) hbes)).ext ((Ext.refl w2).alloc _)).ext ((Ext.refl _).alloc _)⟩
        go_wp2_with (at_builtin; refine wpList_append_lies _ rfl _ _ 29 rfl (w.heap.size + 3) 49 i0 zkid 7 88 Tryz.underlying29 hi hz0 hz1 hz2 rfl (by decide) tv j xs rfl OW.out ⟨w2.heap.size + 1, 0, none⟩ 1 1 (kidC ⟨#[]⟩ k b n fl s A2 len cp).toList rfl rfl (fun q u hu => by have := cells_at (w := w2.alloc (.cells #[.int .i64 k, .bool b, .int .i64 n, .int .u64 fl, .string s, .slice A2 len cp] 31)) (kidC ⟨#[]⟩ k b n fl s A2 len cp) 49 q u hu; simpa using this) (by simp [Value.oneCell']) (by decide) (by unfold maxLen; omega) (by omega) (by simp; omega) (w2.heap.size + 2) (by simp) ?_; intro g2 cap2 w4 hown hgrow hat hlt; have hGP := grow_pack HEW.out (by omega) OW.out hgrow; have HB3n := Sd.mk (hGP.2 _ _ (by omega) HB3W.out); have HB2n := Sd.mk (hGP.2 _ _ (by omega) HB2W.out); have HB1n := Sd.mk (hGP.2 _ _ (by omega) HB1W.out); have HE4 := Sd.mk hGP.1; have f4 := box_cell HB3n.out; have fz4 := box_frozen HB3n.out; have HOWN := Sd.mk hown; have HRn := Sd.mk (HRW.out.grown (n := j + 1) (cap := cap2) hgrow hat (by simp)); clear hown hgrow hat hlt hGP)
        go_roundg (l.length - (j + 1))
        case measure => omega
        case rel =>
          refine ⟨j + 1, ps ++ [((l[j]).1, p)], _, .slice (some ⟨g2, 0, none⟩) (j + 1) cap2, by go_num, by omega, ⟨HE4.out.setCell (by simp; omega) _⟩, ⟨box_other HB1n.out _ (by simp; omega) _⟩, ⟨box_other HB2n.out _ (by simp) _⟩, ⟨box_set HB3n.out 5 _⟩, ⟨ownsRow_setCell_below HOWN.out (show w.heap.size + 1 + 1 < w.heap.size + 3 by omega) _⟩, ⟨HRn.out.setCell (by omega) _ _⟩, HT2⟩
    · have f2 := box_cell HB2.out
      have f3 := box_cell HB3.out
      have fz2 := box_frozen HB2.out
      have HGD := Sd.mk (gd8_some (r := r) (HT.out.all hj))
      have HO1 : Sd (wr.ownsRow (w.heap.size + 3) 49 7 tv (ps.map fun p => (noS, p.2)).length xs) := ⟨by rw [List.length_map, HT.out.1]; exact HO.out⟩
      have hlq : (ps.map fun p => (noS, p.2)).length ≤ 1048576 := by rw [List.length_map, HT.out.1]; omega
      generalize (ps.map fun p => (noS, p.2)) = qs at HGD HO1 HR hlq
      obtain ⟨A', c', rfl, hAll⟩ := rows_done HO1.out HR.out
      have HAL := Sd.mk hAll
      clear hAll HO1 HO HR
      go_wp2_with fail
      refine sv_fin (b := w.heap.size + 1) (k := 5) (bl := false) (n := 0) (f := 0) (s := ⟨#[]⟩) (A := A') (len := qs.length) (c := c') (ok := true) ?_ rfl rfl rfl ?_
      · exact six HB2.out _ _ _ _ _ _
      · exact svR_kids HGD.out (six_ext HE.out (by omega) _ _ _ _ _ _) hlq (All.six HAL.out (fun k hk => ⟨by omega, by omega⟩) _ _ _ _ _ _)

end Go.Proofs.YtcfgjmdfpnfkjaaGreatDoor
set_option linter.unusedVariables false
set_option linter.unusedSimpArgs false
namespace Go.Proofs.YtcfgjmdfpnfkjaaGreatDoor
open Go.RowKit Pf

theorem ins_at {δ : Type} {k : ByteArray} {d : δ} : ∀ (l : List (ByteArray × δ)) (i : Nat), i ≤ l.length → (∀ j (h : j < l.length), j < i → ltB (l[j]).1 k) → ins k d l = l.take i ++ ins k d (l.drop i)
  | l, 0, _, _ => by simp
  | (x, e) :: r, i + 1, h, hl => by
    have h0 := hl 0 (by simp) (by omega)
    simp only [List.getElem_cons_zero] at h0
    have ih := ins_at (k := k) (d := d) r i (by simpa using h) (fun j hj hji => hl (j + 1) (by simpa using hj) (by omega))
    show (if ltB x k then (x, e) :: ins k d r else _) = _
    rw [if_pos h0, ih]
    simp
theorem ins_here {δ : Type} {k : ByteArray} {d : δ} {l : List (ByteArray × δ)} {i : Nat} (hi : i < l.length) (hn : ¬ ltB (l[i]).1 k) : ins k d (l.drop i) = if (l[i]).1 = k then (k, d) :: l.drop (i + 1) else (k, d) :: l.drop i := by
  rw [List.drop_eq_getElem_cons hi]
  generalize l[i] = p at hn
  obtain ⟨x, e⟩ := p
  show (if ltB x k then _ else if x = k then (k, d) :: l.drop (i + 1) else (k, d) :: (x, e) :: l.drop (i + 1)) = _
  rw [if_neg hn]
theorem Rows.name {w : World} {N : Nat → Prop} : ∀ {l : List (ByteArray × PD)} {xs : List Value}, Rows w N l xs → ∀ i (h : i < l.length), xs[i * 7]? = some (.string (l[i]).1)
  | (nm, p) :: r, xs, h, 0, _ => by
    obtain ⟨cs, rest, h1, rfl, h3⟩ := h
    simp
  | (nm, p) :: r, xs, h, i + 1, hi => by
    obtain ⟨cs, rest, h1, rfl, h3⟩ := h
    have a := h1.len
    have b := Rows.name h3 i (by simpa using hi)
    have e : (i + 1) * 7 = (6 + i * 7) + 1 := by omega
    rw [e, List.getElem?_cons_succ, List.getElem?_append_right (by omega), a]
    simpa using b

theorem less_eq : ∀ (x y : List UInt8), Op.bytesLess x y = decide (x < y)
  | [], [] => by simp [Op.bytesLess]
  | _ :: _, [] => by simp [Op.bytesLess]
  | [], _ :: _ => by simp [Op.bytesLess]
  | a :: x, b :: y => by
    rw [Op.bytesLess, less_eq x y, Bool.eq_iff_iff]
    simp [List.cons_lt_cons_iff]
theorem less_t {a b : ByteArray} (h : Op.bytesLess a.toList b.toList = true) : ltB a b := by rw [less_eq] at h; exact of_decide_eq_true h
theorem less_f {a b : ByteArray} (h : Op.bytesLess a.toList b.toList = false) : ¬ ltB a b := by rw [less_eq] at h; exact of_decide_eq_false h
theorem add_at (g i q : Nat) : (⟨g, i, none⟩ : Addr).add q = ⟨g, i + q, none⟩ := by
  unfold Addr.add
  split <;> simp_all
theorem set7 {α : Type} {xs : List α} {i : Nat} (h : i + 7 ≤ xs.length) (v0 v1 v2 v3 v4 v5 v6 : α) :
    (((((((xs.set i v0).set (i + 1) v1).set (i + 2) v2).set (i + 3) v3).set (i + 4) v4).set (i + 5) v5).set (i + 6) v6) = xs.take i ++ (v0 :: v1 :: v2 :: v3 :: v4 :: v5 :: v6 :: xs.drop (i + 7)) := by
  apply List.ext_getElem?
  intro q
  simp only [List.getElem?_set, List.length_set]
  by_cases hq : q < i
  · rw [List.getElem?_append_left (by rw [List.length_take]; omega), List.getElem?_take, if_pos hq]
    simp only [show ¬ i = q by omega, show ¬ i + 1 = q by omega, show ¬ i + 2 = q by omega, show ¬ i + 3 = q by omega, show ¬ i + 4 = q by omega, show ¬ i + 5 = q by omega, show ¬ i + 6 = q by omega, if_false]
  · obtain ⟨d, rfl⟩ : ∃ d, q = i + d := ⟨q - i, by omega⟩
    rw [List.getElem?_append_right (by rw [List.length_take]; omega)]
    have e : i + d - (xs.take i).length = d := by rw [List.length_take]; omega
    rw [e]
    have hd : d = 0 ∨ d = 1 ∨ d = 2 ∨ d = 3 ∨ d = 4 ∨ d = 5 ∨ d = 6 ∨ ∃ m, d = m + 7 := by
      by_cases h7 : d < 7
      · omega
      · exact Or.inr (Or.inr (Or.inr (Or.inr (Or.inr (Or.inr (Or.inr ⟨d - 7, by omega⟩))))))
    rcases hd with rfl | rfl | rfl | rfl | rfl | rfl | rfl | ⟨m, rfl⟩
    · simp; omega
    · simp; omega
    · simp; omega
    · simp; omega
    · simp; omega
    · simp; omega
    · simp; omega
    · simp only [show ¬ i = i + (m + 7) by omega, show ¬ i + 1 = i + (m + 7) by omega, show ¬ i + 2 = i + (m + 7) by omega, show ¬ i + 3 = i + (m + 7) by omega, show ¬ i + 4 = i + (m + 7) by omega, show ¬ i + 5 = i + (m + 7) by omega, show ¬ i + 6 = i + (m + 7) by omega, if_false, List.getElem?_cons_succ, List.getElem?_drop]
      congr 1
      omega

/-- What the loop over an object's members keeps. -/
def ObjI (L : LayP) (r : ByteArray) (l : List (ByteArray × GV)) (A : Option Addr) (c : Nat) (w wr : World) (j : Nat) (ps : List (ByteArray × PD)) (xs : List Value) (tv : Value) : Prop :=
  Ext w wr ∧ wr.heap[w.heap.size]? = some (.cells (gv 9 r A l.length c) 24 (0, 0)) ∧ wr.heap[w.heap.size + 1]? = some (.cells z31 31 (0, 0)) ∧
    wr.heap[w.heap.size + 1 + 1]? = some (.cells #[.int .i64 6, .bool false, .int .i64 0, .int .u64 0, .string ⟨#[]⟩, tv] 31 (0, 0)) ∧
    wr.ownsRow (w.heap.size + 3) 49 7 tv (insAll ps).length xs ∧ Rows wr (NK (w.heap.size + 3) tv) (insAll ps) xs ∧ GotTo L l j ps

abbrev sevenW (U : World) (g i : Nat) (v0 v1 v2 v3 v4 v5 v6 : Value) : World :=
  ((((((U.setCell ⟨g, i, none⟩ v0).setCell ⟨g, i + 1, none⟩ v1).setCell ⟨g, i + 2, none⟩ v2).setCell ⟨g, i + 3, none⟩ v3).setCell ⟨g, i + 4, none⟩ v4).setCell ⟨g, i + 5, none⟩ v5).setCell ⟨g, i + 6, none⟩ v6
theorem seven_heap (U : World) (g i : Nat) (v0 v1 v2 v3 v4 v5 v6 : Value) {k : Nat} (h : k ≠ g) : (sevenW U g i v0 v1 v2 v3 v4 v5 v6).heap[k]? = U.heap[k]? := by
  unfold sevenW
  rw [Below.heap_setCell _ _ _ _ (by simpa using h), Below.heap_setCell _ _ _ _ (by simpa using h), Below.heap_setCell _ _ _ _ (by simpa using h), Below.heap_setCell _ _ _ _ (by simpa using h), Below.heap_setCell _ _ _ _ (by simpa using h),
    Below.heap_setCell _ _ _ _ (by simpa using h), Below.heap_setCell _ _ _ _ (by simpa using h)]
theorem seven_ext {w U : World} {g : Nat} (h : Ext w U) (hg : w.heap.size ≤ g) (i : Nat) (v0 v1 v2 v3 v4 v5 v6 : Value) : Ext w (sevenW U g i v0 v1 v2 v3 v4 v5 v6) :=
  ((((((h.setCell hg _).setCell hg _).setCell hg _).setCell hg _).setCell hg _).setCell hg _).setCell hg _
theorem seven_own {U : World} {base g cap n i : Nat} {xs : List Value} (h : U.ownsRow base 49 7 (.slice (some ⟨g, 0, none⟩) n cap) n xs) (hi : i + 7 ≤ xs.length) (v0 v1 v2 v3 v4 v5 v6 : Value) :
    (sevenW U g i v0 v1 v2 v3 v4 v5 v6).ownsRow base 49 7 (.slice (some ⟨g, 0, none⟩) n cap) n (xs.take i ++ (v0 :: v1 :: v2 :: v3 :: v4 :: v5 :: v6 :: xs.drop (i + 7))) := by
  rw [← set7 hi]
  exact ((((((((h.stored i v0).1).stored (i + 1) v1).1.stored (i + 2) v2).1.stored (i + 3) v3).1.stored (i + 4) v4).1.stored (i + 5) v5).1.stored (i + 6) v6).1

/-- A member laid over another one. -/
theorem ObjI.rep {L : LayP} {r : ByteArray} {l : List (ByteArray × GV)} {A : Option Addr} {c : Nat} {w U : World} {j : Nat} {ps' ms : List (ByteArray × PD)} {xs : List Value} {g cap i : Nat} {key : ByteArray} {p : PD} {k : Int} {b : Bool} {n : Int} {fl : Nat} {s : ByteArray} {A2 : Option Addr} {len cp : Nat}
    (he : Ext w U) (h1 : U.heap[w.heap.size]? = some (.cells (gv 9 r A l.length c) 24 (0, 0))) (h2 : U.heap[w.heap.size + 1]? = some (.cells z31 31 (0, 0)))
    (h3 : U.heap[w.heap.size + 1 + 1]? = some (.cells #[.int .i64 6, .bool false, .int .i64 0, .int .u64 0, .string ⟨#[]⟩, .slice (some ⟨g, 0, none⟩) ms.length cap] 31 (0, 0)))
    (ho : U.ownsRow (w.heap.size + 3) 49 7 (.slice (some ⟨g, 0, none⟩) ms.length cap) ms.length xs) (hr : Rows U (NK (w.heap.size + 3) (.slice (some ⟨g, 0, none⟩) ms.length cap)) ms xs)
    (hp : p.At U (NK (w.heap.size + 3) (.slice (some ⟨g, 0, none⟩) ms.length cap)) [.int .i64 k, .bool b, .int .i64 n, .int .u64 fl, .string s, .slice A2 len cp]) (hi : i < ms.length) (hlt : ∀ q (h : q < ms.length), q < i → ltB (ms[q]).1 key) (hn : ¬ ltB (ms[i]).1 key) (hk : (ms[i]).1 = key)
    (hin : insAll ps' = ins key p ms) (ht : GotTo L l (j + 1) ps') :
    ObjI L r l A c w (sevenW U g (i * 7) (.string key) (.int .i64 k) (.bool b) (.int .i64 n) (.int .u64 fl) (.string s) (.slice A2 len cp)) (j + 1) ps'
      (xs.take (i * 7) ++ (.string key :: .int .i64 k :: .bool b :: .int .i64 n :: .int .u64 fl :: .string s :: .slice A2 len cp :: xs.drop (i * 7 + 7))) (.slice (some ⟨g, 0, none⟩) ms.length cap) := by
  have hgb : w.heap.size + 3 ≤ g := owns_base ho g rfl
  have hlen := hr.len
  have hms : insAll ps' = ms.take i ++ (key, p) :: ms.drop (i + 1) := by rw [hin, ins_at ms i (by omega) hlt, ins_here hi hn, if_pos hk]
  have hml : (insAll ps').length = ms.length := by rw [hms, List.length_append, List.length_cons, List.length_take, List.length_drop]; omega
  have hkeep : ∀ q, NK (w.heap.size + 3) (.slice (some ⟨g, 0, none⟩) ms.length cap) q → q < U.heap.size → (sevenW U g (i * 7) (.string key) (.int .i64 k) (.bool b) (.int .i64 n) (.int .u64 fl) (.string s) (.slice A2 len cp)).heap[q]? = U.heap[q]? ∧ NK (w.heap.size + 3) (.slice (some ⟨g, 0, none⟩) ms.length cap) q :=
    fun q hq _ => ⟨seven_heap _ _ _ _ _ _ _ _ _ _ (fun e => hq.2 (by subst e; rfl)), hq⟩
  refine ⟨seven_ext he (by omega) _ _ _ _ _ _ _ _, ?_, ?_, ?_, ?_, ?_, ht⟩
  · rw [seven_heap _ _ _ _ _ _ _ _ _ _ (by omega)]; exact h1
  · rw [seven_heap _ _ _ _ _ _ _ _ _ _ (by omega)]; exact h2
  · rw [seven_heap _ _ _ _ _ _ _ _ _ _ (by omega)]; exact h3
  · rw [hml]; exact seven_own ho (by omega) _ _ _ _ _ _ _
  · rw [hms]
    obtain ⟨r1, -⟩ := (hr.keep hkeep).split i
    obtain ⟨-, r2⟩ := (hr.keep hkeep).split (i + 1)
    have e1 : 7 * i = i * 7 := by omega
    have e2 : 7 * (i + 1) = i * 7 + 7 := by omega
    rw [e1] at r1
    rw [e2] at r2
    exact r1.append ((Rows.one (nm := key) (hp.keep hkeep)).append r2)

/-- An append to a slice that the call owns, of a slice that may be empty or nil, at a step of a region that draws. -/
theorem step_rest {P : Program} {w : World} {ops : Array Oper} {o : Oper} {a : Act} {K : Act → World → Prop} {Q : Exit → Act → World → Prop} {E : Prop} (hgd : o.guard = none) (s x : Operand) (t : TypeId)
    (ho : o.op = .call { callee := .builtin .append, args := #[s, x], argTypes := #[t, t] })
    (base : Nat) (e : TypeId) (i : TypeInfo) (z : Value) (size bytes : Nat) (ht : P.underlying t = some (.slice e)) (hi : P.info? e = some i) (hz : i.zero = some z)
    (hsize : i.size = size) (hby : i.bytes = bytes) (hzs : z.cells.size = size) (hsz : 0 < size)
    (v : Value) (n : Nat) (xs : List Value) (hs : a.eval s = v) (hown : w.ownsRow base e size v n xs) (hn : 0 < n)
    (ao : Option Addr) (m c : Nat) (news : List Value) (hx : a.eval x = .slice ao m c) (hl : news.length = m * size) (hnone : ao = none → m = 0 ∧ c = 0) (hnews : ∀ ad, ao = some ad → ∀ j u, news[j]? = some u → w.cell? (ad.add j) = some u) (h1 : ∀ u ∈ news, u.oneCell' = true)
    (h63 : n + m ≤ maxLen) (hbytes : (n + m) * bytes ≤ 140737488355328) (hbase : base ≤ w.heap.size)
    (h : ∀ g cap w', w'.ownsRow base e size (.slice (some ⟨g, 0, none⟩) (n + m) cap) (n + m) (xs ++ news) → w.grownBy w' v.ownBlock → K (a.put o.dst (.slice (some ⟨g, 0, none⟩) (n + m) cap)) w') :
    if Region.wanted o (yielded ops a.tmps) = true then Oper.wp P o a w K Q else E := by
  have hw : Region.wanted o (yielded ops a.tmps) = true := by simp [Region.wanted, hgd]
  rw [if_pos hw]
  cases ao with
  | none =>
    obtain ⟨rfl, rfl⟩ := hnone rfl
    obtain rfl : news = [] := List.eq_nil_of_length_eq_zero (by simpa using hl)
    have hr := run_append_owned_none (P := P) (w := w) base t o.type e i size ht hi v n xs hown
    obtain ⟨g, cap, rfl, -, -⟩ := hown.form hn
    unfold Oper.wp execOp
    simp only [ho, resolve, invoke, builtin, Sem.run_bind, Sem.run_pure, Result.andThen_ok, List.map_toArray, List.map_cons, List.map_nil, hs, hx, hr]
    exact h g cap w (by simpa using hown) ⟨rfl, rfl, rfl, Nat.le_refl _, fun _ _ _ => rfl⟩
  | some ad =>
    obtain ⟨v', w', hr, h2, h3, _, h5⟩ := run_append_own_at (P := P) w base t o.type e i z size bytes ht hi hz hsize hby hzs hsz v n xs hown ad m c news hl (hnews ad rfl) h1 h63 hbytes hbase
    obtain ⟨g, cap, rfl, _, hlt⟩ := h2.form (by omega)
    unfold Oper.wp execOp
    simp only [ho, resolve, invoke, builtin, Sem.run_bind, Sem.run_pure, Result.andThen_ok, List.map_toArray, List.map_cons, List.map_nil, hs, hx, hr]
    exact h g cap w' h2 h3

theorem PD.At.one {w : World} {N : Nat → Prop} {p : PD} {cs : List Value} (h : p.At w N cs) : ∀ u ∈ cs, u.oneCell' = true := by
  obtain ⟨k, b, n, f, s, l⟩ := p
  simp only [PD.At] at h
  obtain ⟨A, c, rfl, -, -⟩ := h
  simp [Value.oneCell']
theorem Rows.ones {w : World} {N : Nat → Prop} : ∀ {l : List (ByteArray × PD)} {xs : List Value}, Rows w N l xs → ∀ u ∈ xs, u.oneCell' = true
  | [], _, h, u, hu => by cases h; cases hu
  | (nm, p) :: r, xs, h, u, hu => by
    obtain ⟨cs, rest, h1, rfl, h3⟩ := h
    simp only [List.mem_cons, List.mem_append] at hu
    rcases hu with rfl | hu | hu
    · rfl
    · exact h1.one u hu
    · exact Rows.ones h3 u hu
/-- A member put between others: a new row. -/
theorem ObjI.put {L : LayP} {r : ByteArray} {l : List (ByteArray × GV)} {A : Option Addr} {c : Nat} {w U X : World} {j : Nat} {ps' ms : List (ByteArray × PD)} {xs : List Value} {g3 cap3 n3 i B : Nat} {key : ByteArray} {p : PD} {cs : List Value} {N : Nat → Prop} {tv : Value}
    (he : Ext w X) (hUX : Ext U X) (h1 : X.heap[w.heap.size]? = some (.cells (gv 9 r A l.length c) 24 (0, 0))) (h2 : X.heap[w.heap.size + 1]? = some (.cells z31 31 (0, 0)))
    (h3 : X.heap[w.heap.size + 1 + 1]? = some (.cells #[.int .i64 6, .bool false, .int .i64 0, .int .u64 0, .string ⟨#[]⟩, tv] 31 (0, 0)))
    (ho : X.ownsRow B 49 7 (.slice (some ⟨g3, 0, none⟩) n3 cap3) n3 (xs.take (i * 7) ++ ((.string key :: cs) ++ xs.drop (i * 7)))) (hB : U.heap.size ≤ B) (hb : w.heap.size + 3 ≤ B) (hr : Rows U N ms xs) (hp : p.At U N cs) (hN : ∀ k, N k → w.heap.size + 3 ≤ k)
    (hi : i ≤ ms.length) (hlt : ∀ q (h : q < ms.length), q < i → ltB (ms[q]).1 key) (hn : ∀ h : i < ms.length, ¬ ltB (ms[i]).1 key ∧ (ms[i]).1 ≠ key)
    (hin : insAll ps' = ins key p ms) (ht : GotTo L l (j + 1) ps') :
    ObjI L r l A c w (X.setCell ⟨w.heap.size + 1 + 1, 5, none⟩ (.slice (some ⟨g3, 0, none⟩) n3 cap3)) (j + 1) ps' (xs.take (i * 7) ++ ((.string key :: cs) ++ xs.drop (i * 7))) (.slice (some ⟨g3, 0, none⟩) n3 cap3) := by
  have hg3 : B ≤ g3 := owns_base ho g3 rfl
  have hms : insAll ps' = ms.take i ++ (key, p) :: ms.drop i := by
    rw [hin, ins_at ms i hi hlt]
    by_cases h : i < ms.length
    · rw [ins_here h (hn h).1, if_neg (hn h).2]
    · rw [List.drop_of_length_le (by omega)]; rfl
  have hrl := hr.len
  have hml : (insAll ps').length = n3 := by
    have h1 := ho.1
    have h2 := hp.len
    rw [hms]
    simp only [List.length_append, List.length_cons, List.length_take, List.length_drop] at h1 ⊢
    omega
  have hkeep : ∀ q, N q → q < U.heap.size → X.heap[q]? = U.heap[q]? ∧ NK (w.heap.size + 3) (.slice (some ⟨g3, 0, none⟩) n3 cap3) q :=
    fun q hq hlt => ⟨hUX.block q hlt, hN q hq, fun e => by
      simp only [Value.ownBlock] at e
      have h0 : g3 = q := by simpa using e
      omega⟩
  refine ⟨he.setCell (by simp; omega) _, box_other h1 _ (by simp; omega) _, box_other h2 _ (by simp) _, box_set h3 5 _, ?_, ?_, ht⟩
  · rw [hml]; exact ownsRow_setCell_below (owns_mono ho hb) (show w.heap.size + 1 + 1 < w.heap.size + 3 by omega) _
  · refine Rows.setCell ?_ (by omega) _ _
    rw [hms]
    obtain ⟨r1, r2⟩ := (hr.keep hkeep).split i
    have e1 : 7 * i = i * 7 := by omega
    rw [e1] at r1 r2
    exact r1.append ((Rows.one (nm := key) (hp.keep hkeep)).append r2)

set_option maxRecDepth 100000 in
theorem ob_fin {Q : Ending → World → Prop} {a : Act} {W : World} {b : Nat} {k : Int} {bl : Bool} {n : Int} {f : Nat} {s : ByteArray} {A : Option Addr} {len c : Nat} {ok : Bool}
    (hb : W.heap[b]? = some (.cells (dv k bl n f s A len c) 31 (0, 0))) (ha : a.tmps[2]? = some (.pointer (some ⟨b, 0, none⟩))) (hok : a.tmps[3]? = some (.bool ok)) (hd : a.defers = [])
    (h : Q (.returned (.tuple #[.agg (dv k bl n f s A len c), .bool ok])) W) : bodyPost Tryz.prog Tryz.f18 Q .ret a W := by
  have fc := box_cell hb
  exact bodyPost_ret (v := .tuple #[.agg (dv k bl n f s A len c), .bool ok]) (by simp [results, Tryz.results18, go_sem, ha, hok, fc]) hd h


end Go.Proofs.YtcfgjmdfpnfkjaaGreatDoor
set_option linter.unusedVariables false
set_option linter.unusedSimpArgs false
namespace Go.Proofs.YtcfgjmdfpnfkjaaGreatDoor
open Go.RowKit Pf

theorem PD.size_kid {l : List (ByteArray × PD)} {j : Nat} (h : j < l.length) (k b n f s) : SizeOf.sizeOf (l[j]).2 < SizeOf.sizeOf (PD.mk k b n f s l) := by
  have h1 := List.sizeOf_lt_of_mem (List.getElem_mem h)
  have h2 : SizeOf.sizeOf (l[j]).2 < SizeOf.sizeOf l[j] := by
    generalize l[j] = p
    obtain ⟨a, b⟩ := p
    simp only [Prod.mk.sizeOf_spec]; omega
  simp only [PD.mk.sizeOf_spec]; omega
theorem PD.ind {P : PD → Prop} (h : ∀ k b n f s l, (∀ j (hj : j < l.length), P (l[j]).2) → P (.mk k b n f s l)) : ∀ v, P v
  | .mk k b n f s l => h k b n f s l fun j hj => PD.ind h (l[j]).2
termination_by v => SizeOf.sizeOf v
decreasing_by exact PD.size_kid hj _ _ _ _ _

/-- The function answers true. -/
abbrev YesR (w : World) (e : Ending) (w' : World) : Prop := e = .returned (.bool true) ∧ Ext w w'
def SameC (p : PD) : Prop := ∀ (w : World) (N1 N2 : Nat → Prop) (cs1 cs2 : List Value), p.At w N1 cs1 → p.At w N2 cs2 → Calls Tryz.prog 9 #[.agg cs1.toArray, .agg cs2.toArray] w (YesR w)

set_option maxRecDepth 100000 in
set_option maxHeartbeats 4000000 in
theorem same_kid (nm : ByteArray) (p : PD) (hp : SameC p) (k : Int) (b : Bool) (n : Int) (f : Nat) (s : ByteArray) (A1 : Option Addr) (n1 c1 : Nat) (A2 : Option Addr) (n2 c2 : Nat) (w : World) (N1 N2 : Nat → Prop)
    (h1 : p.At w N1 (dv k b n f s A1 n1 c1).toList) (h2 : p.At w N2 (dv k b n f s A2 n2 c2).toList) : Calls Tryz.prog 24 #[.agg (kidC nm k b n f s A1 n1 c1), .agg (kidC nm k b n f s A2 n2 c2)] w (YesR w) := by
  have HE := Sd.mk (((Ext.refl w).alloc (.cells (kidC nm k b n f s A1 n1 c1) 49)).alloc (.cells (kidC nm k b n f s A2 n2 c2) 49))
  have HP := Sd.mk (hp _ N1 N2 _ _ (h1.ext HE.out) (h2.ext HE.out))
  clear hp h1 h2
  go_enter Tryz.func24, Tryz.ntmps24
  go_wp2_with fail
  refine HP.out.mono ?_
  rintro e w1 ⟨rfl, he⟩
  have HE1 := Sd.mk (HE.out.trans he)
  clear he
  go_wp2_with fail
  go_ret
  exact ⟨rfl, HE1.out⟩

set_option maxRecDepth 100000 in
set_option maxHeartbeats 4000000 in
theorem each_c (l : List (ByteArray × PD)) (ih : ∀ j (hj : j < l.length), SameC (l[j]).2) (A1 : Option Addr) (c1 : Nat) (A2 : Option Addr) (c2 : Nat) (w : World) (N1 N2 : Nat → Prop) (hl : l.length ≤ 1048576)
    (h1 : PD.All w N1 A1 0 l) (h2 : PD.All w N2 A2 0 l) : Calls Tryz.prog 23 #[.slice A1 l.length c1, .slice A2 l.length c2, .func (.func 24) #[] #[]] w (YesR w) := by
  have H1 := Sd.mk h1
  have H2 := Sd.mk h2
  have IH := Sd.mk ih
  clear h1 h2 ih
  go_enter Tryz.func23, Tryz.ntmps23
  go_wp2_with fail
  go_loopg [15] l.length (fun g v15 wr => ∃ j : Nat, v15 = .int .i64 j ∧ g + j = l.length ∧ Sd (Ext w wr))
  case atStart => exact ⟨0, rfl, by omega, ⟨Ext.refl _⟩⟩
  case round =>
    obtain ⟨j, rfl, hg, HE⟩ := hrel
    by_cases hj : j < l.length
    · obtain ⟨ad1, B1, d1, rfl, -, a0, a1, a2, a3, a4, a5, a6, hAt1⟩ := (H1.out.ext HE.out).elem j hj
      obtain ⟨ad2, B2, d2, rfl, -, b0, b1, b2, b3, b4, b5, b6, hAt2⟩ := (H2.out.ext HE.out).elem j hj
      have HA1 := Sd.mk hAt1
      have HA2 := Sd.mk hAt2
      clear hAt1 hAt2
      go_upto_region 6 with (fail)
      go_still_tail 9, (by kernel_rfl)
      change wpList _ _ _ _ _ (World.drew _)
      go_wp2_with (go_at_call 24; refine (same_kid _ _ (IH.out j hj) _ _ _ _ _ _ _ _ _ _ _ _ N1 N2 (HA1.out.ext (Ext.drewN (Ext.refl _) 1)) (HA2.out.ext (Ext.drewN (Ext.refl _) 1))).mono ?_; rintro e w' ⟨rfl, he⟩; have HEE := Sd.mk (HE.out.trans ((Ext.drewN (Ext.refl _) 1).trans he)); clear he)
      go_roundg (l.length - (j + 1))
      case measure => omega
      case rel => exact ⟨j + 1, by go_num, by omega, HEE⟩
    · go_wp2_with fail
      go_ret
      exact ⟨rfl, HE.out⟩

set_option maxRecDepth 100000 in
set_option maxHeartbeats 4000000 in
theorem same_c (p : PD) : SameC p := by
  induction p using PD.ind with | h k b n f s l ih
  intro w N1 N2 cs1 cs2 h1 h2
  simp only [PD.At] at h1 h2
  obtain ⟨A1, c1, rfl, hl, hA1⟩ := h1
  obtain ⟨A2, c2, rfl, -, hA2⟩ := h2
  have H1 := Sd.mk hA1
  have H2 := Sd.mk hA2
  have IH := Sd.mk ih
  clear hA1 hA2 ih
  go_enter Tryz.func9, Tryz.ntmps9
  go_wp2_with fail
  have HE := Sd.mk (((Ext.refl w).alloc (.cells (dv k b n f s A1 l.length c1) 31)).alloc (.cells (dv k b n f s A2 l.length c2) 31))
  refine (each_c l IH.out A1 c1 A2 c2 _ N1 N2 hl (H1.out.ext HE.out) (H2.out.ext HE.out)).mono ?_
  rintro e w1 ⟨rfl, he⟩
  have HE1 := Sd.mk (HE.out.trans he)
  clear he
  go_wp2_with fail
  go_ret
  exact ⟨rfl, HE1.out⟩

end Go.Proofs.YtcfgjmdfpnfkjaaGreatDoor
