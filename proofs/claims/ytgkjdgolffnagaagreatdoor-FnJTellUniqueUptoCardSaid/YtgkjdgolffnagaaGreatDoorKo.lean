/- Parts of the proof of the statement that this folder hands in: lemmas and contracts (Ko). -/
import Derived.Test.YtgkjdgolffnagaaGreatDoorKn
set_option linter.unusedSimpArgs false
set_option linter.unusedVariables false
namespace Go.Proofs.YtgkjdgolffnagaaGreatDoor
open Go.RowKit

set_option maxRecDepth 100000 in
theorem right_c (nb : Nat) (k : Int) (b : Bool) (n : Int) (t : ByteArray) (A : Option Addr) (la c : Nat) (B : Option Addr) (lb d : Nat) (kd : ByteArray) (P : Option Addr) (lp cp : Nat) (A' : Option Addr) (ca : Nat) (N : Option Addr) (ln cn : Nat) (K : Option Addr) (lk ck : Nat) (w : World)
    (herr : ∀ w' sb, Ext w w' → w'.heap[sb]? = some (.cells #[.slice (some ⟨nb, 0, none⟩) 1 1] 30 (0, 0)) → Calls Tryz.prog 21 #[.int .i64 2020, .agg (jn nb), .func (.func 22) #[] #[.pointer (some ⟨sb, 0, none⟩)], .agg (jv k b n t A la c B lb d), .agg (je kd P lp cp A' ca N ln cn K lk ck)] w' fun e w'' => e = .returned (.bool true) ∧ Ext w' w'') :
    Calls Tryz.prog 16 #[.int .i64 2020, .slice (some ⟨nb, 0, none⟩) 1 1, .agg (jv k b n t A la c B lb d), .agg (je kd P lp cp A' ca N ln cn K lk ck)] w fun e w' => e = .returned (.bool true) ∧ Ext w w' := by
  have HERR := Sd.mk herr
  clear herr
  have hmf : ∀ (fn : Fn) (first cap : Array Value) (w : World), (Instr.makeFunc fn first cap).run Tryz.prog w = .ok (.func fn first cap) w := fun _ _ _ _ => rfl
  go_enter Tryz.func16, Tryz.ntmps16
  go_wp2_with (go_at_call 21; refine (HERR.out _ _ ((((Ext.refl w).alloc _).alloc _).alloc _) (box_keep (box_keep (box_alloc w _) _) _)).mono ?_; rintro e w' ⟨rfl, he⟩; have HE := Sd.mk (((((Ext.refl w).alloc _).alloc _).alloc _).trans he); clear he)
  go_ret
  exact ⟨rfl, HE.out⟩

theorem among1 (x y : ByteArray) (g c : Nat) (r : Bool) (w : World) (h : w.cell? ⟨g, 0, none⟩ = some (.string y)) (hr : (y.toList == x.toList) = r) :
    Calls Tryz.prog 20 #[.string x, .slice (some ⟨g, 0, none⟩) 1 c] w fun e w' => e = .returned (.bool r) ∧ w' = w := by
  cases r
  · go_enter Tryz.func20, Tryz.ntmps20
    go_wp2_with fail
    refine wp_loop_rounds 2 ?_
    rw [rounds_succ]
    go_wp2_with fail
    rw [rounds_succ]
    go_wp2_with fail
    go_ret
    exact ⟨rfl, rfl⟩
  · go_enter Tryz.func20, Tryz.ntmps20
    go_wp2_with fail
    refine wp_loop_rounds 2 ?_
    rw [rounds_succ]
    go_wp2_with fail
    go_ret
    exact ⟨rfl, rfl⟩

set_option maxRecDepth 100000 in
theorem kinds_kid (kd : ByteArray) (P : Option Addr) (lp cp : Nat) (A' : Option Addr) (ca : Nat) (N : Option Addr) (ln cn : Nat) (kg kc : Nat) (w : World) (hk : w.cell? ⟨kg, 0, none⟩ = some (.string kd)) :
    Calls Tryz.prog 15 #[.agg (je kd P lp cp A' ca N ln cn none 0 0), .string one, .slice (some ⟨kg, 0, none⟩) 1 kc] w fun e w' => e = .returned (.int .i64 1) ∧ Ext w w' := by
  have HK := Sd.mk hk
  clear hk
  go_enter Tryz.func15, Tryz.ntmps15
  go_wp2_with (go_at_call 20; refine (among1 _ kd _ _ true _ (((Ext.refl w).alloc _).cell HK.out) (by simp)).mono ?_; rintro e w' ⟨rfl, rfl⟩)
  refine wp_loop_rounds 1 ?_
  rw [rounds_succ]
  go_wp2_with fail
  go_ret
  exact ⟨rfl, (Ext.refl w).alloc _⟩

set_option maxHeartbeats 1000000 in
set_option maxRecDepth 100000 in
theorem kinds_top (kd : ByteArray) (hne : (kd.toList == sSchema.toList) = false) (P : Option Addr) (lp cp : Nat) (A' : Option Addr) (ca : Nat) (N : Option Addr) (ln cn : Nat) (P2 : Option Addr) (lp2 cp2 : Nat) (A2 : Option Addr) (ca2 : Nat) (N2 : Option Addr) (ln2 cn2 : Nat) (g ck : Nat) (kg kc : Nat) (w : World) (hk : w.cell? ⟨kg, 0, none⟩ = some (.string kd))
    (hkid : ∀ i, i < 8 → w.cell? ⟨g, i, none⟩ = (je kd P2 lp2 cp2 A2 ca2 N2 ln2 cn2 none 0 0)[i]?) :
    Calls Tryz.prog 15 #[.agg (je sSchema P lp cp A' ca N ln cn (some ⟨g, 0, none⟩) 1 ck), .string one, .slice (some ⟨kg, 0, none⟩) 1 kc] w fun e w' => e = .returned (.int .i64 1) ∧ Ext w w' := by
  have HK := Sd.mk hk
  have HNE := Sd.mk hne
  have E0 := (Ext.refl w).alloc (.cells (je sSchema P lp cp A' ca N ln cn (some ⟨g, 0, none⟩) 1 ck) 49)
  have k0 := E0.cell (hkid 0 (by decide)); have k1 := E0.cell (hkid 1 (by decide)); have k2 := E0.cell (hkid 2 (by decide)); have k3 := E0.cell (hkid 3 (by decide))
  have k4 := E0.cell (hkid 4 (by decide)); have k5 := E0.cell (hkid 5 (by decide)); have k6 := E0.cell (hkid 6 (by decide)); have k7 := E0.cell (hkid 7 (by decide))
  have EE := Sd.mk E0
  clear hk hkid hne E0
  go_enter Tryz.func15, Tryz.ntmps15
  go_wp2_with (go_at_call 20; refine (among1 _ kd _ _ false _ (EE.out.cell HK.out) HNE.out).mono ?_; rintro e w' ⟨rfl, rfl⟩)
  refine wp_loop_rounds 2 ?_
  rw [rounds_succ]
  go_wp2_with (go_at_call 15; refine (kinds_kid kd _ _ _ _ _ _ _ _ _ _ _ (EE.out.cell HK.out)).mono ?_; rintro e w' ⟨rfl, he⟩; have HE := Sd.mk (EE.out.trans he); have f := box_cell (box_ext (box_alloc w _) he); clear he)
  rw [rounds_succ]
  go_wp2_with fail
  go_ret
  exact ⟨rfl, HE.out⟩

end Go.Proofs.YtgkjdgolffnagaaGreatDoor
