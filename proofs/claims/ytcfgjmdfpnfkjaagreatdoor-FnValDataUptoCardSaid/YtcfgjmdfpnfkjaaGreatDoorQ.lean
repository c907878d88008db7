/- Parts of the proof of the statement that this folder hands in: lemmas and contracts (Q). -/
import Derived.Test.YtcfgjmdfpnfkjaaGreatDoorYdMg
set_option linter.unusedSimpArgs false
set_option linter.unusedVariables false
set_option linter.unusedSimpArgs false
namespace Go.Proofs.YtcfgjmdfpnfkjaaGreatDoor
open Go.RowKit

theorem nameKind_x (s : ByteArray) (w : World) : Calls Tryz.prog 14 #[.string s] w fun e w' => e = .returned (.int .i64 (nk s)) ∧ w' = w := (nameKind_c s w).mono fun _ _ ⟨a, b⟩ => ⟨a, b.symm⟩
theorem fit_leaf {k : Int} {r : ByteArray} {l : List (ByteArray × GV)} (h1 : 1 ≤ k) (h9 : k ≤ 9) (h5 : k = 5 → nk r = 5) (hn : k = 1 ∨ k = 2 → NumS r) (hl : ¬ 0 < l.length) : GV.Fit (.mk k r l) :=
  .mk k r l h1 h9 h5 hn (fun _ => List.eq_nil_of_length_eq_zero (by omega)) fun i hi => absurd hi (by omega)

set_option maxHeartbeats 8000000 in
set_option maxRecDepth 100000 in
theorem fits_leaf (k : Int) (r : ByteArray) (l : List (ByteArray × GV)) (A : Option Addr) (c : Nat) (d : Int) (w : World) (hd : 0 ≤ d) (hl0 : ¬ 0 < l.length) (hr : r.size ≤ 1048576) (hk : k < 8) :
    Calls Tryz.prog 5 #[.agg (gv k r A l.length c), .bool true, .int .i64 d] w (FitRes (.mk k r l) w) := by
  have hl : l.length = 0 := by omega
  rw [hl]
  have HL := Sd.mk hl0
  clear hl hl0
  have hcase : k = 0 ∨ k = 1 ∨ k = 2 ∨ k = 3 ∨ k = 4 ∨ k = 5 ∨ k = 6 ∨ k = 7 ∨ k < 0 := by omega
  rcases hcase with rfl | rfl | rfl | rfl | rfl | rfl | rfl | rfl | hneg
  · go_enter Tryz.func5, Tryz.ntmps5
    go_wp2_with fail
    go_ret
    exact ⟨⟨false, rfl, fun h => by cases h⟩, (Ext.refl _).alloc _⟩
  · go_enter Tryz.func5, Tryz.ntmps5
    go_wp2_with fail
    refine (isNumber_c _ _ _ hr).mono ?_
    rintro e w2 ⟨⟨b, rfl, hbn⟩, he⟩
    have HBN := Sd.mk hbn
    clear hbn
    have HE := Sd.mk (((Ext.refl w).alloc _).trans he)
    clear he
    go_wp2_with fail
    go_ret
    exact ⟨⟨b, rfl, fun h => fit_leaf (by omega) (by omega) (by omega) (fun _ => HBN.out h) HL.out⟩, HE.out⟩
  · go_enter Tryz.func5, Tryz.ntmps5
    go_wp2_with fail
    refine (isNumber_c _ _ _ hr).mono ?_
    rintro e w2 ⟨⟨b, rfl, hbn⟩, he⟩
    have HBN := Sd.mk hbn
    clear hbn
    have HE := Sd.mk (((Ext.refl w).alloc _).trans he)
    clear he
    go_wp2_with fail
    go_ret
    exact ⟨⟨b, rfl, fun h => fit_leaf (by omega) (by omega) (by omega) (fun _ => HBN.out h) HL.out⟩, HE.out⟩
  · go_enter Tryz.func5, Tryz.ntmps5
    go_wp2_with fail
    refine (easy_c _ _ hr).mono ?_
    rintro e w2 ⟨b, rfl, rfl⟩
    go_wp2_with fail
    go_ret
    exact ⟨⟨b, rfl, fun _ => fit_leaf (by omega) (by omega) (by omega) (fun h => absurd h (by omega)) HL.out⟩, (Ext.refl _).alloc _⟩
  · go_enter Tryz.func5, Tryz.ntmps5
    go_wp2_with fail
    refine (straight_c _ _ hr).mono ?_
    rintro e w2 ⟨b, rfl, rfl⟩
    go_wp2_with fail
    go_ret
    exact ⟨⟨b, rfl, fun _ => fit_leaf (by omega) (by omega) (by omega) (fun h => absurd h (by omega)) HL.out⟩, (Ext.refl _).alloc _⟩
  · cases qn : nmB r
    all_goals
      go_enter Tryz.func5, Tryz.ntmps5
      go_wp2_with fail
      go_quiet ((first | (go_at_call 10; exact Calls.quiet_of_same (isName_x _ _ hr)) | (go_at_call 14; exact Calls.quiet_of_same (nameKind_x _ _))))
      go_wp2_with fail
      go_ret
      refine ⟨⟨_, rfl, fun h => fit_leaf (by omega) (by omega) (fun _ => ?_) (fun h => absurd h (by omega)) HL.out⟩, ((Ext.refl _).alloc _).drewN _⟩
      first
        | (simp at h; done)
        | simpa using h
  · cases qn : nmB r
    all_goals
      go_enter Tryz.func5, Tryz.ntmps5
      go_wp2_with fail
      go_quiet ((first | (go_at_call 10; exact Calls.quiet_of_same (isName_x _ _ hr)) | (go_at_call 14; exact Calls.quiet_of_same (nameKind_x _ _))))
      go_wp2_with fail
      go_ret
      exact ⟨⟨_, rfl, fun h => fit_leaf (by omega) (by omega) (by omega) (fun h => absurd h (by omega)) HL.out⟩, ((Ext.refl _).alloc _).drewN _⟩
  · cases qn : nmB r
    all_goals
      go_enter Tryz.func5, Tryz.ntmps5
      go_wp2_with fail
      go_quiet ((first | (go_at_call 10; exact Calls.quiet_of_same (isName_x _ _ hr)) | (go_at_call 14; exact Calls.quiet_of_same (nameKind_x _ _))))
      go_wp2_with fail
      go_ret
      exact ⟨⟨_, rfl, fun h => fit_leaf (by omega) (by omega) (by omega) (fun h => absurd h (by omega)) HL.out⟩, ((Ext.refl _).alloc _).drewN _⟩
  · go_enter Tryz.func5, Tryz.ntmps5
    go_wp2_with fail
    go_ret
    exact ⟨⟨false, rfl, fun h => by cases h⟩, (Ext.refl _).alloc _⟩

end Go.Proofs.YtcfgjmdfpnfkjaaGreatDoor
