/- Parts of the proof of the statement that this folder hands in: lemmas and contracts (Kf). -/
import Derived.Test.YtgkjdgolffnagaaGreatDoorKe
set_option linter.unusedSimpArgs false
set_option linter.unusedVariables false
namespace Go.Proofs.YtgkjdgolffnagaaGreatDoor
open Go.RowKit

set_option maxHeartbeats 4000000 in
set_option maxRecDepth 100000 in
theorem twins_right (k : Int) (b : Bool) (n : Int) (t : ByteArray) (ns : List ByteArray) (is : List JV) (hok : ∀ i (h : i < is.length), (is[i]).Ok) (hcn : ∀ i (h : i < is.length), (is[i]).counts = true) (A : Option Addr) (c : Nat) (B : Option Addr) (d : Nat) (w : World)
    (hl : is.length ≤ 1048576) (h : JV.All w B 0 is) (j i : Nat) (hi : i < is.length) (hj : j < is.length) (hji : j < i) (he : JEq is[i] is[j]) (N cn : Nat) (h0 : w.cell? ⟨N, 0, none⟩ = some (.int .i64 j)) (h1 : w.cell? ⟨N, 1, none⟩ = some (.int .i64 i)) :
    Calls Tryz.prog 122 #[.agg (jv k b n t A ns.length c B is.length d), .slice (some ⟨N, 0, none⟩) 2 cn] w fun e w' => e = .returned (.bool true) ∧ Ext w w' := by
  have H := Sd.mk h
  have OK := Sd.mk hok
  have CN := Sd.mk hcn
  have HE := Sd.mk he
  have H0 := Sd.mk h0
  have H1 := Sd.mk h1
  clear h hok hcn he
  have b1 : ((j : Int) == (i : Int)) = false := by simp; omega
  have b2 : decide ((j : Int) < 0) = false := by simp
  have b3 : decide ((i : Int) < 0) = false := by simp
  have b4 : decide ((is.length : Int) ≤ (j : Int)) = false := by simp; omega
  have b5 : decide ((is.length : Int) ≤ (i : Int)) = false := by simp; omega
  have g0 := ((Ext.refl w).alloc (.cells (jv k b n t A ns.length c B is.length d) 25)).cell h0
  have g1 := ((Ext.refl w).alloc (.cells (jv k b n t A ns.length c B is.length d) 25)).cell h1
  have gb := box_cell (box_alloc w (.cells (jv k b n t A ns.length c B is.length d) 25))
  clear h0 h1
  go_enter Tryz.func122, Tryz.ntmps122
  go_upto_region 1 with (fail)
  go_cut [46] from 5 to 46 (fun v46 wx => v46 = .bool false ∧ Sd (Ext w wx) ∧ Sd (wx.heap[w.heap.size]? = some (.cells (jv k b n t A ns.length c B is.length d) 25 (0, 0))))
  case first =>
    go_quiet (fail)
    go_wp2_with fail
    go_meet
    exact ⟨by simp; omega, ⟨((Ext.refl w).alloc _).drewN _⟩, ⟨box_alloc w _⟩⟩
  case rest =>
  obtain ⟨rfl, HX, HB⟩ := hcut
  clear g0 g1 gb
  have g0 := HX.out.cell H0.out
  have g1 := HX.out.cell H1.out
  have gb := box_cell HB.out 5
  go_wp2_with fail
  obtain ⟨ai, Ai, ci, Di, di, rfl, x0, x1, x2, x3, x4, x5, hAt⟩ := (H.out.ext HX.out).elem j hj
  obtain ⟨ai', Ai', ci', Di', di', e', y0, y1, y2, y3, y4, y5, hAt'⟩ := (H.out.ext HX.out).elem i hi
  cases e'
  have HAt := Sd.mk hAt
  have HAt' := Sd.mk hAt'
  clear hAt hAt'
  go_still_tail 14, (by kernel_rfl)
  change wpList _ _ _ _ _ (World.drew _)
  go_wp2_with (go_at_call 60; refine (jequals_c _ _ (OK.out j hj) (OK.out i hi) (CN.out j hj) (CN.out i hi) _ _ _ (HAt.out.ext (Ext.drewN (Ext.refl _) 1)) (HAt'.out.ext (Ext.drewN (Ext.refl _) 1))).mono ?_; rintro e w' ⟨⟨r, rfl, hr⟩, he⟩; have HE2 := Sd.mk he; have HR := Sd.mk hr; clear he hr)
  go_ret
  have := HR.out.2 (JEq.symm _ _ (OK.out i hi) (OK.out j hj) HE.out)
  subst this
  exact ⟨rfl, HX.out.trans ⟨HE2.out.os, HE2.out.tape, HE2.out.output, HE2.out.size, HE2.out.block⟩⟩

set_option maxHeartbeats 4000000 in
set_option maxRecDepth 100000 in
theorem array_c (J : Array Value) (k' : Int) (b : Bool) (n : Int) (t : ByteArray) (ns : List ByteArray) (is : List JV) (hok : ∀ i (h : i < is.length), (is[i]).Ok) (hcn : ∀ i (h : i < is.length), (is[i]).counts = true) (A : Option Addr) (c : Nat) (B : Option Addr) (d : Nat) (w : World)
    (hl : is.length ≤ 1048576) (h : JV.All w B 0 is) (j i : Nat) (hi : i < is.length) (hj : j < is.length) (hji : j < i) (he : JEq is[i] is[j]) (N cn : Nat) (h0 : w.cell? ⟨N, 0, none⟩ = some (.int .i64 j)) (h1 : w.cell? ⟨N, 1, none⟩ = some (.int .i64 i))
    (P : Option Addr) (lp cp : Nat) (A' : Option Addr) (ca : Nat) (K : Option Addr) (lk ck : Nat) :
    Calls Tryz.prog 82 #[.int .i64 2020, .agg J, .agg (node k' true), .agg (jv 4 b n t A ns.length c B is.length d), .agg (je sUniq P lp cp A' ca (some ⟨N, 0, none⟩) 2 cn K lk ck)] w fun e w' => e = .returned (.bool true) ∧ Ext w w' := by
  have H := Sd.mk h
  have OK := Sd.mk hok
  have CN := Sd.mk hcn
  have HE := Sd.mk he
  have H0 := Sd.mk h0
  have H1 := Sd.mk h1
  clear h hok hcn he h0 h1
  unfold sUniq node
  go_enter Tryz.func82, Tryz.ntmps82
  go_wp2_with (go_at_call 122; refine (twins_right _ _ _ _ _ is OK.out CN.out _ _ _ _ _ hl (H.out.ext (by repeat (first | with_reducible exact Ext.refl _ | with_reducible apply Ext.alloc))) j i hi hj hji HE.out _ _ (Ext.cell (by repeat (first | with_reducible exact Ext.refl _ | with_reducible apply Ext.alloc)) H0.out) (Ext.cell (by repeat (first | with_reducible exact Ext.refl _ | with_reducible apply Ext.alloc)) H1.out)).mono ?_; rintro e w' ⟨rfl, hx⟩)
  go_ret
  exact ⟨rfl, Ext.trans (by repeat (first | with_reducible exact Ext.refl _ | with_reducible apply Ext.alloc)) hx⟩

end Go.Proofs.YtgkjdgolffnagaaGreatDoor
