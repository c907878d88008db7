/- Parts of the proof of the statement that this folder hands in: lemmas and contracts (Kg). -/
import Derived.Test.YtgkjdgolffnagaaGreatDoorKbMg
set_option linter.unusedSimpArgs false
set_option linter.unusedVariables false
namespace Go.Proofs.YtgkjdgolffnagaaGreatDoor
open Go.RowKit

/-- The schema of one node, as the reference takes it. -/
abbrev jn (b : Nat) : Array Value := #[.slice (some ⟨b, 0, none⟩) 1 1, .slice none 0 0]
section
variable (J : Array Value) (v : Array Value) (u : Bool) (n : Int) (w : World)
theorem several_c (m : Value) : Calls Tryz.prog 62 #[.int .i64 2020, .agg J, .slice none 0 0, .agg v, m] w fun e w' => e = .returned (.int .i64 0) ∧ Ext w w' := by
  go_enter Tryz.func62, Tryz.ntmps62
  go_wp2_with fail
  refine wp_loop_rounds 1 ?_
  rw [rounds_succ]
  go_wp2_with fail
  go_ret
  exact ⟨rfl, ((Ext.refl _).alloc _).alloc _⟩
theorem there_c (c : Nat) (A : Option Addr) : Calls Tryz.prog 115 #[.agg v, .slice A 0 c] w fun e w' => e = .returned (.bool true) ∧ Ext w w' := by
  go_enter Tryz.func115, Tryz.ntmps115
  go_wp2_with fail
  refine wp_loop_rounds 1 ?_
  rw [rounds_succ]
  go_wp2_with fail
  go_ret
  exact ⟨rfl, (Ext.refl _).alloc _⟩
theorem smore_c : Calls Tryz.prog 117 #[.int .i64 2020, .agg J, .agg #[.int .i64 0, .int .i64 n], .agg v] w fun e w' => e = .returned (.tuple #[.bool true, .bool false]) ∧ Ext w w' := by
  go_enter Tryz.func117, Tryz.ntmps117
  go_wp2_with fail
  go_ret2
  exact ⟨rfl, (((Ext.refl _).alloc _).alloc _).alloc _⟩
set_option maxRecDepth 100000 in
theorem element_c (i : Int) (hi : 0 ≤ i) : Calls Tryz.prog 71 #[.int .i64 2020, .agg J, .agg (node 0 u), .int .i64 i, .agg v] w fun e w' => e = .returned (.tuple #[.bool true, .bool false]) ∧ Ext w w' := by
  have h : decide (i < 0) = false := by simpa using hi
  unfold node
  go_enter Tryz.func71, Tryz.ntmps71
  go_wp2_with fail
  go_ret2
  exact ⟨rfl, (((Ext.refl _).alloc _).alloc _).alloc _⟩
end

set_option maxRecDepth 100000 in
theorem member_0 (nb : Nat) (u : Bool) (s : ByteArray) (k : Int) (b : Bool) (n : Int) (t : ByteArray) (A : Option Addr) (la c : Nat) (B : Option Addr) (lb d : Nat) (w : World) :
    Calls Tryz.prog 75 #[.int .i64 2020, .agg (jn nb), .agg (node 0 u), .string s, .agg #[.int .i64 k, .bool b, .int .i64 n, .string t, .slice A la c, .slice B lb d]] w fun e w' => e = .returned (.tuple #[.bool true, .bool false]) ∧ Ext w w' := by
  unfold node
  go_enter Tryz.func75, Tryz.ntmps75
  go_wp2_with fail
  refine wp_loop_rounds 1 ?_
  rw [rounds_succ]
  go_wp2_with fail
  refine wp_loop_rounds 1 ?_
  rw [rounds_succ]
  go_wp2_with (go_at_call 117; refine (smore_c _ _ _ _).mono ?_; rintro e w' ⟨rfl, he⟩; have HE : Sd (Ext w w') := ⟨Ext.trans (by repeat (first | with_reducible exact Ext.refl _ | with_reducible apply Ext.alloc)) he⟩; clear he)
  go_ret2
  exact ⟨rfl, HE.out⟩

set_option maxRecDepth 100000 in
theorem needs_c (u : Bool) (k : Int) (b : Bool) (n : Int) (t : ByteArray) (A : Option Addr) (la c : Nat) (B : Option Addr) (lb d : Nat) (w : World) :
    Calls Tryz.prog 74 #[.agg (node 0 u), .agg #[.int .i64 k, .bool b, .int .i64 n, .string t, .slice A la c, .slice B lb d]] w fun e w' => e = .returned (.bool true) ∧ Ext w w' := by
  have HB := Sd.mk (box_keep (box_alloc w (.cells (node 0 u) 44)) (.cells #[.int .i64 k, .bool b, .int .i64 n, .string t, .slice A la c, .slice B lb d] 25))
  have HE := Sd.mk (((Ext.refl w).alloc (.cells (node 0 u) 44)).alloc (.cells #[.int .i64 k, .bool b, .int .i64 n, .string t, .slice A la c, .slice B lb d] 25))
  unfold node at *
  go_enter Tryz.func74, Tryz.ntmps74
  go_wp2_with (go_at_call 115; refine (there_c _ _ _ _).mono ?_; rintro e w' ⟨rfl, he⟩; have f := box_cell (box_ext HB.out he) 39; have HE1 := Sd.mk (HE.out.trans he); clear he)
  refine wp_loop_rounds 1 ?_
  rw [rounds_succ]
  go_wp2_with fail
  go_ret
  exact ⟨rfl, HE1.out⟩

set_option maxHeartbeats 4000000 in
set_option maxRecDepth 100000 in
theorem values_c (u : Bool) (k : Int) (b : Bool) (n : Int) (t : ByteArray) (A : Option Addr) (la c : Nat) (B : Option Addr) (lb d : Nat) (w : World) :
    Calls Tryz.prog 30 #[.agg (node 0 u), .agg #[.int .i64 k, .bool b, .int .i64 n, .string t, .slice A la c, .slice B lb d]] w fun e w' => e = .returned (.bool true) ∧ Ext w w' := by
  unfold node
  go_enter Tryz.func30, Tryz.ntmps30
  go_wp2_with fail
  go_quiet (fail)
  go_wp2_with fail
  go_ret
  exact ⟨rfl, (((Ext.refl w).alloc _).alloc _).drewN _⟩

set_option maxHeartbeats 4000000 in
set_option maxRecDepth 100000 in
theorem depends_c (J : Array Value) (m : Value) (u : Bool) (k : Int) (b : Bool) (n : Int) (t : ByteArray) (A : Option Addr) (la c : Nat) (B : Option Addr) (lb d : Nat) (w : World) :
    Calls Tryz.prog 66 #[.int .i64 2020, .agg J, .agg (node 0 u), .agg #[.int .i64 k, .bool b, .int .i64 n, .string t, .slice A la c, .slice B lb d], m] w fun e w' => e = .returned (.bool true) ∧ Ext w w' := by
  unfold node
  go_enter Tryz.func66, Tryz.ntmps66
  go_wp2_with fail
  refine wp_loop_rounds 1 ?_
  rw [rounds_succ]
  go_wp2_with fail
  go_ret
  exact ⟨rfl, (by repeat (first | with_reducible exact Ext.refl _ | with_reducible apply Ext.alloc))⟩

set_option maxHeartbeats 8000000 in
set_option maxRecDepth 100000 in
theorem inplace_c (nb : Nat) (m : Value) (u : Bool) (k : Int) (b : Bool) (n : Int) (t : ByteArray) (A : Option Addr) (la c : Nat) (B : Option Addr) (lb d : Nat) (w : World) :
    Calls Tryz.prog 31 #[.int .i64 2020, .agg (jn nb), .agg (node 0 u), .agg #[.int .i64 k, .bool b, .int .i64 n, .string t, .slice A la c, .slice B lb d], m] w fun e w' => e = .returned (.bool true) ∧ Ext w w' := by
  have HE0 := Sd.mk ((((Ext.refl w).alloc (.cells (jn nb) 63)).alloc (.cells (node 0 u) 44)).alloc (.cells #[.int .i64 k, .bool b, .int .i64 n, .string t, .slice A la c, .slice B lb d] 25))
  have HW := Sd.mk (Ext.refl (((w.alloc (.cells (jn nb) 63)).alloc (.cells (node 0 u) 44)).alloc (.cells #[.int .i64 k, .bool b, .int .i64 n, .string t, .slice A la c, .slice B lb d] 25)))
  have HJ := Sd.mk (show (((w.alloc (.cells (jn nb) 63)).alloc (.cells (node 0 u) 44)).alloc (.cells #[.int .i64 k, .bool b, .int .i64 n, .string t, .slice A la c, .slice B lb d] 25)).heap[w.heap.size]? = some _ from box_keep (box_keep (box_alloc w _) _) _)
  have HN := Sd.mk (show (((w.alloc (.cells (jn nb) 63)).alloc (.cells (node 0 u) 44)).alloc (.cells #[.int .i64 k, .bool b, .int .i64 n, .string t, .slice A la c, .slice B lb d] 25)).heap[w.heap.size + 1]? = some _ from box_keep (box_at (by simp)) _)
  have HV := Sd.mk (show (((w.alloc (.cells (jn nb) 63)).alloc (.cells (node 0 u) 44)).alloc (.cells #[.int .i64 k, .bool b, .int .i64 n, .string t, .slice A la c, .slice B lb d] 25)).heap[w.heap.size + 1 + 1]? = some _ from box_at (by simp))
  unfold node at *
  go_enter Tryz.func31, Tryz.ntmps31
  go_wp2_with (first
    | (refine wpList_load_row rfl 44 _ rfl (w.heap.size + 1) rfl 44 _ (0, 0) _ (box_ext HN.out HW.out) Tryz.underlying44 rfl s44 ?_)
    | (go_at_call 62; refine (several_c _ _ _ _).mono ?_; rintro e w' ⟨rfl, he⟩; have HW := Sd.mk (HW.out.trans he); clear he; have f6 := box_cell (box_ext HJ.out HW.out); have f7 := box_cell (box_ext HN.out HW.out); have f8 := box_cell (box_ext HV.out HW.out))
    | fail)
  refine wp_loop_rounds 1 ?_
  rw [rounds_succ]
  go_wp2_with (first
    | (refine wpList_load_row rfl 44 _ rfl (w.heap.size + 1) rfl 44 _ (0, 0) _ (box_ext HN.out HW.out) Tryz.underlying44 rfl s44 ?_)
    | (go_at_call 66; refine (depends_c _ _ _ _ _ _ _ _ _ _ _ _ _ _).mono ?_; rintro e w' ⟨rfl, he⟩; have HW := Sd.mk (HW.out.trans he); clear he)
    | fail)
  go_ret
  exact ⟨rfl, HE0.out.trans HW.out⟩

end Go.Proofs.YtgkjdgolffnagaaGreatDoor
