/- Parts of the proof of the statement that this folder hands in: lemmas and contracts (Km). -/
import Derived.Test.YtgkjdgolffnagaaGreatDoorKl
set_option linter.unusedSimpArgs false
set_option linter.unusedVariables false
namespace Go.Proofs.YtgkjdgolffnagaaGreatDoor
open Go.RowKit

theorem s63 : (Tryz.prog.info? 63).map (·.size) = some 2 := by kernel_rfl
theorem s49 : (Tryz.prog.info? 49).map (·.size) = some 8 := by kernel_rfl

set_option maxHeartbeats 0 in
set_option maxRecDepth 100000 in
theorem kind_top (nb : Nat) (k : Int) (b : Bool) (n : Int) (t : ByteArray) (A : Option Addr) (la c : Nat) (B : Option Addr) (lb d : Nat) (P : Option Addr) (lp cp : Nat) (A' : Option Addr) (ca : Nat) (N : Option Addr) (ln cn : Nat) (K : Option Addr) (ck : Nat) (w : World) (hb : w.heap[nb]? = some (.cells (node 0 true) 44 (0, 0))) :
    Calls Tryz.prog 42 #[.int .i64 2020, .agg (jn nb), .int .i64 1, .agg (jv k b n t A la c B lb d), .agg (je sSchema P lp cp A' ca N ln cn K 1 ck)] w fun e w' => e = .returned (.bool true) ∧ Ext w w' := by
  have HB := Sd.mk hb
  clear hb
  go_enter Tryz.func42, Tryz.ntmps42
  go_wp2_with (first
    | (refine wpList_load_row rfl 44 _ rfl nb rfl 44 (node 0 true) (0, 0) _ (box_keep (box_keep (box_keep HB.out _) _) _) Tryz.underlying44 rfl s44 ?_)
    | (refine wpList_store_row rfl 44 _ _ rfl _ (node 0 true) (node 0 false) rfl rfl 44 (box_at (by simp)) rfl s44 (o44 _ _) ?_; intro wz hn1 hn2; have HJ := Sd.mk (grown_keep hn2 (box_keep (box_keep (box_keep (box_alloc w _) _) _) _) (by omega)); have HV := Sd.mk (grown_keep hn2 (box_keep (box_keep (box_at (b := w.heap.size + 1) (by simp)) _) _) (by omega)); have HR := Sd.mk (grown_keep hn2 (box_keep (box_at (b := w.heap.size + 1 + 1) (by simp)) _) (by omega)); have HN := Sd.mk (show wz.heap[w.heap.size + 1 + 1 + 1]? = _ from hn1); have HE : Sd (Ext w wz) := ⟨Ext.over (((((Ext.refl w).alloc _).alloc _).alloc _).alloc _) hn2 (by omega)⟩; have fR := box_cell HR.out; have fN := box_cell HN.out 0; clear hn1 hn2; unfold node at fN; (try unfold sUniq at *); (try unfold sSchema at *); (try unfold sFalse at *))
    | fail)
  refine wp_region_held_drew (S := fun W => Ext wz W) (by kernel_rfl) ((Ext.refl _).drewN 1) (fun hHeld => ?_)
  refine wpAnyH_take (i := 0) (oi := { dst := some 42, op := Op.move (Operand.tmp 0), type := 3, pos := "json_errors.go:124", after := #[], guard := none }) (v := ?_) rfl (by kernel_rfl) (by kernel_rfl) (by kernel_rfl) (fun _ _ _ h => h) (Or.inl ⟨by rfl, ?_⟩) (by assumption) ?_
  rotate_left
  · (intro W hSw; go_simp; (try with_reducible rfl))
  (try simp only [Act.put, List.setIfInBounds_toArray, List.set_cons_zero, List.set_cons_succ])
  refine wpAnyH_take (i := 1) (oi := { dst := some 43, op := Op.load 63 (Operand.tmp 6), type := 63, pos := "json_errors.go:124", after := #[], guard := none }) rfl (by kernel_rfl) (by kernel_rfl) (by kernel_rfl) (fun _ _ _ h => h) (yieldsIf_load_row (by rfl) 63 _ rfl (w.heap.size) rfl 63 (jn nb) (0, 0) _ (fun W hSw => box_ext HJ.out hSw) Tryz.underlying63 rfl s63) (by assumption) ?_
  (try simp only [Act.put, List.setIfInBounds_toArray, List.set_cons_zero, List.set_cons_succ])
  refine wpAnyH_take (i := 2) (oi := { dst := some 44, op := Op.load 44 (Operand.tmp 11), type := 44, pos := "json_errors.go:124", after := #[], guard := none }) rfl (by kernel_rfl) (by kernel_rfl) (by kernel_rfl) (fun _ _ _ h => h) (yieldsIf_load_row (by rfl) 44 _ rfl (w.heap.size + 1 + 1 + 1) rfl 44 (node 0 true) (0, 0) _ (fun W hSw => box_ext HN.out hSw) Tryz.underlying44 rfl s44) (by assumption) ?_
  (try simp only [Act.put, List.setIfInBounds_toArray, List.set_cons_zero, List.set_cons_succ])
  refine wpAnyH_take (i := 3) (oi := { dst := some 45, op := Op.load 25 (Operand.tmp 8), type := 25, pos := "json_errors.go:124", after := #[], guard := none }) rfl (by kernel_rfl) (by kernel_rfl) (by kernel_rfl) (fun _ _ _ h => h) (yieldsIf_load_row (by rfl) 25 _ rfl (w.heap.size + 1) rfl 25 (jv k b n t A la c B lb d) (0, 0) _ (fun W hSw => box_ext HV.out hSw) Tryz.underlying25 rfl s25) (by assumption) ?_
  (try simp only [Act.put, List.setIfInBounds_toArray, List.set_cons_zero, List.set_cons_succ])
  refine wpAnyH_take (i := 4) (oi := { dst := some 46, op := Op.load 49 (Operand.tmp 9), type := 49, pos := "json_errors.go:124", after := #[], guard := none }) rfl (by kernel_rfl) (by kernel_rfl) (by kernel_rfl) (fun _ _ _ h => h) (yieldsIf_load_row (by rfl) 49 _ rfl (w.heap.size + 1 + 1) rfl 49 (je sSchema P lp cp A' ca N ln cn K 1 ck) (0, 0) _ (fun W hSw => box_ext HR.out hSw) Tryz.underlying49 rfl s49) (by assumption) ?_
  (try simp only [Act.put, List.setIfInBounds_toArray, List.set_cons_zero, List.set_cons_succ])
  refine wpAnyH_ready (rs := [5]) (by kernel_rfl) (by simp) ?_
  refine AllReadyH.cons (o := { dst := some 47, op := Op.call { callee := Callee.value (Operand.func 79), args := #[Operand.tmp 42, Operand.tmp 43, Operand.tmp 44, Operand.tmp 45, Operand.tmp 46], argTypes := #[3, 63, 44, 25, 49] }, type := 4, pos := "json_errors.go:124", after := #[{ on := 0, ground := Ground.data }, { on := 1, ground := Ground.data }, { on := 2, ground := Ground.data }, { on := 3, ground := Ground.data }, { on := 4, ground := Ground.data }], guard := none }) rfl (fun K hK => ?_) AllReadyH.nil
  go_simp
  go_at_call 79; refine (place_schema _ _ _ _ _ _ _ _ _ _ _ _ _ _ _ _ _ _ _ _ _ _ _ _).mono ?_; rintro e w' ⟨rfl, he⟩; (try simp only []); have hX : Ext wz w' := hHeld.trans he
  refine hK.out _ _ hX (fun hHeld => ?_)
  clear hK K
  (try simp only [Act.put, List.setIfInBounds_toArray, List.set_cons_zero, List.set_cons_succ])
  refine wpAnyH_take (i := 6) (oi := { dst := some 48, op := Op.move (Operand.tmp 47), type := 4, pos := "json_errors.go:124", after := #[{ on := 5, ground := Ground.data }, { on := 5, ground := Ground.chain }], guard := none }) (v := ?_) rfl (by kernel_rfl) (by kernel_rfl) (by kernel_rfl) (fun _ _ _ h => h) (Or.inl ⟨by rfl, ?_⟩) (by assumption) ?_
  rotate_left
  · (intro W hSw; go_simp; (try with_reducible rfl))
  (try simp only [Act.put, List.setIfInBounds_toArray, List.set_cons_zero, List.set_cons_succ])
  refine wpAnyH_take (i := 7) (oi := { dst := some 49, op := Op.load 44 (Operand.tmp 11), type := 44, pos := "json_errors.go:124", after := #[{ on := 6, ground := Ground.guard }], guard := some (6, false) }) rfl (by kernel_rfl) (by kernel_rfl) (by kernel_rfl) (fun _ _ _ h => h) (yieldsIf_skip (by rfl)) (by assumption) ?_
  (try simp only [Act.put, List.setIfInBounds_toArray, List.set_cons_zero, List.set_cons_succ])
  refine wpAnyH_take (i := 8) (oi := { dst := some 50, op := Op.load 25 (Operand.tmp 8), type := 25, pos := "json_errors.go:124", after := #[{ on := 6, ground := Ground.guard }], guard := some (6, false) }) rfl (by kernel_rfl) (by kernel_rfl) (by kernel_rfl) (fun _ _ _ h => h) (yieldsIf_skip (by rfl)) (by assumption) ?_
  (try simp only [Act.put, List.setIfInBounds_toArray, List.set_cons_zero, List.set_cons_succ])
  refine wpAnyH_take (i := 9) (oi := { dst := some 51, op := Op.load 49 (Operand.tmp 9), type := 49, pos := "json_errors.go:124", after := #[{ on := 6, ground := Ground.guard }], guard := some (6, false) }) rfl (by kernel_rfl) (by kernel_rfl) (by kernel_rfl) (fun _ _ _ h => h) (yieldsIf_skip (by rfl)) (by assumption) ?_
  (try simp only [Act.put, List.setIfInBounds_toArray, List.set_cons_zero, List.set_cons_succ])
  refine wpAnyH_take (i := 10) (oi := { dst := some 52, op := Op.call { callee := Callee.value (Operand.func 80), args := #[Operand.tmp 49, Operand.tmp 50, Operand.tmp 51], argTypes := #[44, 25, 49] }, type := 4, pos := "json_errors.go:124", after := #[{ on := 7, ground := Ground.data }, { on := 8, ground := Ground.data }, { on := 9, ground := Ground.data }, { on := 6, ground := Ground.chain }, { on := 6, ground := Ground.guard }], guard := some (6, false) }) rfl (by kernel_rfl) (by kernel_rfl) (by kernel_rfl) (fun _ _ _ h => h) (yieldsIf_skip (by rfl)) (by assumption) ?_
  (try simp only [Act.put, List.setIfInBounds_toArray, List.set_cons_zero, List.set_cons_succ])
  refine wpAnyH_take (i := 11) (oi := { dst := some 53, op := Op.pick (Operand.tmp 48) (Operand.const (Value.bool true)) (Operand.tmp 52), type := 4, pos := "json_errors.go:124", after := #[{ on := 6, ground := Ground.data }, { on := 10, ground := Ground.data }], guard := none }) (v := ?_) rfl (by kernel_rfl) (by kernel_rfl) (by kernel_rfl) (fun _ _ _ h => h) (Or.inl ⟨by rfl, ?_⟩) (by assumption) ?_
  rotate_left
  · (intro W hSw; go_simp; (try with_reducible rfl))
  (try simp only [Act.put, List.setIfInBounds_toArray, List.set_cons_zero, List.set_cons_succ])
  refine wpAnyH_take (i := 12) (oi := { dst := some 54, op := Op.move (Operand.tmp 53), type := 4, pos := "json_errors.go:124", after := #[{ on := 11, ground := Ground.data }, { on := 10, ground := Ground.chain }], guard := none }) (v := ?_) rfl (by kernel_rfl) (by kernel_rfl) (by kernel_rfl) (fun _ _ _ h => h) (Or.inl ⟨by rfl, ?_⟩) (by assumption) ?_
  rotate_left
  · (intro W hSw; go_simp; (try with_reducible rfl))
  (try simp only [Act.put, List.setIfInBounds_toArray, List.set_cons_zero, List.set_cons_succ])
  refine wpAnyH_take (i := 13) (oi := { dst := some 55, op := Op.load 63 (Operand.tmp 6), type := 63, pos := "json_errors.go:124", after := #[{ on := 12, ground := Ground.guard }], guard := some (12, false) }) rfl (by kernel_rfl) (by kernel_rfl) (by kernel_rfl) (fun _ _ _ h => h) (yieldsIf_skip (by rfl)) (by assumption) ?_
  (try simp only [Act.put, List.setIfInBounds_toArray, List.set_cons_zero, List.set_cons_succ])
  refine wpAnyH_take (i := 14) (oi := { dst := some 56, op := Op.move (Operand.tmp 2), type := 3, pos := "json_errors.go:124", after := #[{ on := 12, ground := Ground.guard }], guard := some (12, false) }) rfl (by kernel_rfl) (by kernel_rfl) (by kernel_rfl) (fun _ _ _ h => h) (yieldsIf_skip (by rfl)) (by assumption) ?_
  (try simp only [Act.put, List.setIfInBounds_toArray, List.set_cons_zero, List.set_cons_succ])
  refine wpAnyH_take (i := 15) (oi := { dst := some 57, op := Op.call { callee := Callee.value (Operand.func 33), args := #[Operand.tmp 55, Operand.tmp 56], argTypes := #[63, 3] }, type := 82, pos := "json_errors.go:124", after := #[{ on := 13, ground := Ground.data }, { on := 14, ground := Ground.data }, { on := 12, ground := Ground.chain }, { on := 12, ground := Ground.guard }], guard := some (12, false) }) rfl (by kernel_rfl) (by kernel_rfl) (by kernel_rfl) (fun _ _ _ h => h) (yieldsIf_skip (by rfl)) (by assumption) ?_
  (try simp only [Act.put, List.setIfInBounds_toArray, List.set_cons_zero, List.set_cons_succ])
  refine wpAnyH_take (i := 16) (oi := { dst := some 58, op := Op.load 25 (Operand.tmp 8), type := 25, pos := "json_errors.go:124", after := #[{ on := 12, ground := Ground.guard }], guard := some (12, false) }) rfl (by kernel_rfl) (by kernel_rfl) (by kernel_rfl) (fun _ _ _ h => h) (yieldsIf_skip (by rfl)) (by assumption) ?_
  (try simp only [Act.put, List.setIfInBounds_toArray, List.set_cons_zero, List.set_cons_succ])
  refine wpAnyH_take (i := 17) (oi := { dst := some 59, op := Op.load 49 (Operand.tmp 9), type := 49, pos := "json_errors.go:124", after := #[{ on := 12, ground := Ground.guard }], guard := some (12, false) }) rfl (by kernel_rfl) (by kernel_rfl) (by kernel_rfl) (fun _ _ _ h => h) (yieldsIf_skip (by rfl)) (by assumption) ?_
  (try simp only [Act.put, List.setIfInBounds_toArray, List.set_cons_zero, List.set_cons_succ])
  refine wpAnyH_take (i := 18) (oi := { dst := some 60, op := Op.call { callee := Callee.value (Operand.func 81), args := #[Operand.tmp 57, Operand.tmp 58, Operand.tmp 59], argTypes := #[82, 25, 49] }, type := 4, pos := "json_errors.go:124", after := #[{ on := 15, ground := Ground.data }, { on := 16, ground := Ground.data }, { on := 17, ground := Ground.data }, { on := 15, ground := Ground.chain }, { on := 12, ground := Ground.guard }], guard := some (12, false) }) rfl (by kernel_rfl) (by kernel_rfl) (by kernel_rfl) (fun _ _ _ h => h) (yieldsIf_skip (by rfl)) (by assumption) ?_
  (try simp only [Act.put, List.setIfInBounds_toArray, List.set_cons_zero, List.set_cons_succ])
  refine wpAnyH_take (i := 19) (oi := { dst := some 61, op := Op.pick (Operand.tmp 54) (Operand.const (Value.bool true)) (Operand.tmp 60), type := 4, pos := "json_errors.go:124", after := #[{ on := 12, ground := Ground.data }, { on := 18, ground := Ground.data }], guard := none }) (v := ?_) rfl (by kernel_rfl) (by kernel_rfl) (by kernel_rfl) (fun _ _ _ h => h) (Or.inl ⟨by rfl, ?_⟩) (by assumption) ?_
  rotate_left
  · (intro W hSw; go_simp; (try with_reducible rfl))
  (try simp only [Act.put, List.setIfInBounds_toArray, List.set_cons_zero, List.set_cons_succ])
  refine wpAnyH_take (i := 20) (oi := { dst := some 62, op := Op.move (Operand.tmp 61), type := 4, pos := "json_errors.go:124", after := #[{ on := 19, ground := Ground.data }, { on := 18, ground := Ground.chain }], guard := none }) (v := ?_) rfl (by kernel_rfl) (by kernel_rfl) (by kernel_rfl) (fun _ _ _ h => h) (Or.inl ⟨by rfl, ?_⟩) (by assumption) ?_
  rotate_left
  · (intro W hSw; go_simp; (try with_reducible rfl))
  (try simp only [Act.put, List.setIfInBounds_toArray, List.set_cons_zero, List.set_cons_succ])
  refine wpAnyH_take (i := 21) (oi := { dst := some 63, op := Op.move (Operand.tmp 0), type := 3, pos := "json_errors.go:124", after := #[{ on := 20, ground := Ground.guard }], guard := some (20, false) }) rfl (by kernel_rfl) (by kernel_rfl) (by kernel_rfl) (fun _ _ _ h => h) (yieldsIf_skip (by rfl)) (by assumption) ?_
  (try simp only [Act.put, List.setIfInBounds_toArray, List.set_cons_zero, List.set_cons_succ])
  refine wpAnyH_take (i := 22) (oi := { dst := some 64, op := Op.load 63 (Operand.tmp 6), type := 63, pos := "json_errors.go:124", after := #[{ on := 20, ground := Ground.guard }], guard := some (20, false) }) rfl (by kernel_rfl) (by kernel_rfl) (by kernel_rfl) (fun _ _ _ h => h) (yieldsIf_skip (by rfl)) (by assumption) ?_
  (try simp only [Act.put, List.setIfInBounds_toArray, List.set_cons_zero, List.set_cons_succ])
  refine wpAnyH_take (i := 23) (oi := { dst := some 65, op := Op.load 44 (Operand.tmp 11), type := 44, pos := "json_errors.go:124", after := #[{ on := 20, ground := Ground.guard }], guard := some (20, false) }) rfl (by kernel_rfl) (by kernel_rfl) (by kernel_rfl) (fun _ _ _ h => h) (yieldsIf_skip (by rfl)) (by assumption) ?_
  (try simp only [Act.put, List.setIfInBounds_toArray, List.set_cons_zero, List.set_cons_succ])
  refine wpAnyH_take (i := 24) (oi := { dst := some 66, op := Op.load 25 (Operand.tmp 8), type := 25, pos := "json_errors.go:124", after := #[{ on := 20, ground := Ground.guard }], guard := some (20, false) }) rfl (by kernel_rfl) (by kernel_rfl) (by kernel_rfl) (fun _ _ _ h => h) (yieldsIf_skip (by rfl)) (by assumption) ?_
  (try simp only [Act.put, List.setIfInBounds_toArray, List.set_cons_zero, List.set_cons_succ])
  refine wpAnyH_take (i := 25) (oi := { dst := some 67, op := Op.load 49 (Operand.tmp 9), type := 49, pos := "json_errors.go:124", after := #[{ on := 20, ground := Ground.guard }], guard := some (20, false) }) rfl (by kernel_rfl) (by kernel_rfl) (by kernel_rfl) (fun _ _ _ h => h) (yieldsIf_skip (by rfl)) (by assumption) ?_
  (try simp only [Act.put, List.setIfInBounds_toArray, List.set_cons_zero, List.set_cons_succ])
  refine wpAnyH_take (i := 26) (oi := { dst := some 68, op := Op.call { callee := Callee.value (Operand.func 82), args := #[Operand.tmp 63, Operand.tmp 64, Operand.tmp 65, Operand.tmp 66, Operand.tmp 67], argTypes := #[3, 63, 44, 25, 49] }, type := 4, pos := "json_errors.go:124", after := #[{ on := 21, ground := Ground.data }, { on := 22, ground := Ground.data }, { on := 23, ground := Ground.data }, { on := 24, ground := Ground.data }, { on := 25, ground := Ground.data }, { on := 20, ground := Ground.chain }, { on := 20, ground := Ground.guard }], guard := some (20, false) }) rfl (by kernel_rfl) (by kernel_rfl) (by kernel_rfl) (fun _ _ _ h => h) (yieldsIf_skip (by rfl)) (by assumption) ?_
  (try simp only [Act.put, List.setIfInBounds_toArray, List.set_cons_zero, List.set_cons_succ])
  refine wpAnyH_take (i := 27) (oi := { dst := some 69, op := Op.pick (Operand.tmp 62) (Operand.const (Value.bool true)) (Operand.tmp 68), type := 4, pos := "json_errors.go:124", after := #[{ on := 20, ground := Ground.data }, { on := 26, ground := Ground.data }], guard := none }) (v := ?_) rfl (by kernel_rfl) (by kernel_rfl) (by kernel_rfl) (fun _ _ _ h => h) (Or.inl ⟨by rfl, ?_⟩) (by assumption) ?_
  rotate_left
  · (intro W hSw; go_simp; (try with_reducible rfl))
  (try simp only [Act.put, List.setIfInBounds_toArray, List.set_cons_zero, List.set_cons_succ])
  refine wpAnyH_take (i := 28) (oi := { dst := some 70, op := Op.move (Operand.tmp 69), type := 4, pos := "json_errors.go:124", after := #[{ on := 27, ground := Ground.data }, { on := 26, ground := Ground.chain }], guard := none }) (v := ?_) rfl (by kernel_rfl) (by kernel_rfl) (by kernel_rfl) (fun _ _ _ h => h) (Or.inl ⟨by rfl, ?_⟩) (by assumption) ?_
  rotate_left
  · (intro W hSw; go_simp; (try with_reducible rfl))
  (try simp only [Act.put, List.setIfInBounds_toArray, List.set_cons_zero, List.set_cons_succ])
  refine wpAnyH_take (i := 29) (oi := { dst := some 71, op := Op.load 44 (Operand.tmp 11), type := 44, pos := "json_errors.go:124", after := #[{ on := 28, ground := Ground.guard }], guard := some (28, false) }) rfl (by kernel_rfl) (by kernel_rfl) (by kernel_rfl) (fun _ _ _ h => h) (yieldsIf_skip (by rfl)) (by assumption) ?_
  (try simp only [Act.put, List.setIfInBounds_toArray, List.set_cons_zero, List.set_cons_succ])
  refine wpAnyH_take (i := 30) (oi := { dst := some 72, op := Op.load 25 (Operand.tmp 8), type := 25, pos := "json_errors.go:124", after := #[{ on := 28, ground := Ground.guard }], guard := some (28, false) }) rfl (by kernel_rfl) (by kernel_rfl) (by kernel_rfl) (fun _ _ _ h => h) (yieldsIf_skip (by rfl)) (by assumption) ?_
  (try simp only [Act.put, List.setIfInBounds_toArray, List.set_cons_zero, List.set_cons_succ])
  refine wpAnyH_take (i := 31) (oi := { dst := some 73, op := Op.load 49 (Operand.tmp 9), type := 49, pos := "json_errors.go:124", after := #[{ on := 28, ground := Ground.guard }], guard := some (28, false) }) rfl (by kernel_rfl) (by kernel_rfl) (by kernel_rfl) (fun _ _ _ h => h) (yieldsIf_skip (by rfl)) (by assumption) ?_
  (try simp only [Act.put, List.setIfInBounds_toArray, List.set_cons_zero, List.set_cons_succ])
  refine wpAnyH_take (i := 32) (oi := { dst := some 74, op := Op.call { callee := Callee.value (Operand.func 83), args := #[Operand.tmp 71, Operand.tmp 72, Operand.tmp 73], argTypes := #[44, 25, 49] }, type := 4, pos := "json_errors.go:124", after := #[{ on := 29, ground := Ground.data }, { on := 30, ground := Ground.data }, { on := 31, ground := Ground.data }, { on := 28, ground := Ground.chain }, { on := 28, ground := Ground.guard }], guard := some (28, false) }) rfl (by kernel_rfl) (by kernel_rfl) (by kernel_rfl) (fun _ _ _ h => h) (yieldsIf_skip (by rfl)) (by assumption) ?_
  (try simp only [Act.put, List.setIfInBounds_toArray, List.set_cons_zero, List.set_cons_succ])
  refine wpAnyH_take (i := 33) (oi := { dst := some 75, op := Op.pick (Operand.tmp 70) (Operand.const (Value.bool true)) (Operand.tmp 74), type := 4, pos := "json_errors.go:124", after := #[{ on := 28, ground := Ground.data }, { on := 32, ground := Ground.data }], guard := none }) (v := ?_) rfl (by kernel_rfl) (by kernel_rfl) (by kernel_rfl) (fun _ _ _ h => h) (Or.inl ⟨by rfl, ?_⟩) (by assumption) ?_
  rotate_left
  · (intro W hSw; go_simp; (try with_reducible rfl))
  (try simp only [Act.put, List.setIfInBounds_toArray, List.set_cons_zero, List.set_cons_succ])
  refine wpAnyH_take (i := 34) (oi := { dst := some 10, op := Op.assign (Operand.tmp 75), type := 4, pos := "json_errors.go:124", after := #[{ on := 33, ground := Ground.data }, { on := 32, ground := Ground.chain }, { on := 0, ground := Ground.phase }, { on := 1, ground := Ground.phase }, { on := 2, ground := Ground.phase }, { on := 3, ground := Ground.phase }, { on := 4, ground := Ground.phase }, { on := 5, ground := Ground.phase }, { on := 6, ground := Ground.phase }, { on := 7, ground := Ground.phase }, { on := 8, ground := Ground.phase }, { on := 9, ground := Ground.phase }, { on := 10, ground := Ground.phase }, { on := 11, ground := Ground.phase }, { on := 12, ground := Ground.phase }, { on := 13, ground := Ground.phase }, { on := 14, ground := Ground.phase }, { on := 15, ground := Ground.phase }, { on := 16, ground := Ground.phase }, { on := 17, ground := Ground.phase }, { on := 18, ground := Ground.phase }, { on := 19, ground := Ground.phase }, { on := 20, ground := Ground.phase }, { on := 21, ground := Ground.phase }, { on := 22, ground := Ground.phase }, { on := 23, ground := Ground.phase }, { on := 24, ground := Ground.phase }, { on := 25, ground := Ground.phase }, { on := 26, ground := Ground.phase }, { on := 27, ground := Ground.phase }, { on := 28, ground := Ground.phase }, { on := 29, ground := Ground.phase }, { on := 30, ground := Ground.phase }, { on := 31, ground := Ground.phase }, { on := 32, ground := Ground.phase }, { on := 33, ground := Ground.phase }], guard := none }) (v := ?_) rfl (by kernel_rfl) (by kernel_rfl) (by kernel_rfl) (fun _ _ _ h => h) (Or.inl ⟨by rfl, ?_⟩) (by assumption) ?_
  rotate_left
  · (intro W hSw; go_simp; (try with_reducible rfl))
  (try simp only [Act.put, List.setIfInBounds_toArray, List.set_cons_zero, List.set_cons_succ])
  refine wpAnyH_done (by kernel_rfl) ?_ _
  have HX := Sd.mk hHeld
  clear hHeld
  go_wp2_with fail
  go_ret
  exact ⟨rfl, HE.out.trans HX.out⟩

set_option maxHeartbeats 0 in
set_option maxRecDepth 100000 in
theorem kind2_top (nb : Nat) (k : Int) (b : Bool) (n : Int) (t : ByteArray) (A : Option Addr) (la c : Nat) (B : Option Addr) (lb d : Nat) (P : Option Addr) (lp cp : Nat) (A' : Option Addr) (ca : Nat) (N : Option Addr) (ln cn : Nat) (K : Option Addr) (ck : Nat) (w : World) (hb : w.heap[nb]? = some (.cells (node 2 false) 44 (0, 0))) :
    Calls Tryz.prog 42 #[.int .i64 2020, .agg (jn nb), .int .i64 1, .agg (jv k b n t A la c B lb d), .agg (je sSchema P lp cp A' ca N ln cn K 1 ck)] w fun e w' => e = .returned (.bool true) ∧ Ext w w' := by
  have HB := Sd.mk hb
  clear hb
  go_enter Tryz.func42, Tryz.ntmps42
  go_wp2_with (first
    | (refine wpList_load_row rfl 44 _ rfl nb rfl 44 (node 2 false) (0, 0) _ (box_keep (box_keep (box_keep HB.out _) _) _) Tryz.underlying44 rfl s44 ?_)
    | (refine wpList_store_row rfl 44 _ _ rfl _ (node 2 false) (node 0 false) rfl rfl 44 (box_at (by simp)) rfl s44 (o44 _ _) ?_; intro wz hn1 hn2; have HJ := Sd.mk (grown_keep hn2 (box_keep (box_keep (box_keep (box_alloc w _) _) _) _) (by omega)); have HV := Sd.mk (grown_keep hn2 (box_keep (box_keep (box_at (b := w.heap.size + 1) (by simp)) _) _) (by omega)); have HR := Sd.mk (grown_keep hn2 (box_keep (box_at (b := w.heap.size + 1 + 1) (by simp)) _) (by omega)); have HN := Sd.mk (show wz.heap[w.heap.size + 1 + 1 + 1]? = _ from hn1); have HE : Sd (Ext w wz) := ⟨Ext.over (((((Ext.refl w).alloc _).alloc _).alloc _).alloc _) hn2 (by omega)⟩; have fR := box_cell HR.out; have fN := box_cell HN.out 0; clear hn1 hn2; unfold node at fN; (try unfold sUniq at *); (try unfold sSchema at *); (try unfold sFalse at *))
    | fail)
  go_ret
  exact ⟨rfl, HE.out⟩

set_option maxHeartbeats 0 in
set_option maxRecDepth 100000 in
theorem kind2_false (nb : Nat) (k : Int) (b : Bool) (n : Int) (t : ByteArray) (A : Option Addr) (la c : Nat) (B : Option Addr) (lb d : Nat) (P : Option Addr) (lp cp : Nat) (A' : Option Addr) (ca : Nat) (N : Option Addr) (ln cn : Nat) (w : World) (hb : w.heap[nb]? = some (.cells (node 2 false) 44 (0, 0))) :
    Calls Tryz.prog 42 #[.int .i64 2020, .agg (jn nb), .int .i64 1, .agg (jv k b n t A la c B lb d), .agg (je sFalse P lp cp A' ca N ln cn none 0 0)] w fun e w' => e = .returned (.bool true) ∧ Ext w w' := by
  have HB := Sd.mk hb
  clear hb
  go_enter Tryz.func42, Tryz.ntmps42
  go_wp2_with (first
    | (refine wpList_load_row rfl 44 _ rfl nb rfl 44 (node 2 false) (0, 0) _ (box_keep (box_keep (box_keep HB.out _) _) _) Tryz.underlying44 rfl s44 ?_)
    | (refine wpList_store_row rfl 44 _ _ rfl _ (node 2 false) (node 0 false) rfl rfl 44 (box_at (by simp)) rfl s44 (o44 _ _) ?_; intro wz hn1 hn2; have HJ := Sd.mk (grown_keep hn2 (box_keep (box_keep (box_keep (box_alloc w _) _) _) _) (by omega)); have HV := Sd.mk (grown_keep hn2 (box_keep (box_keep (box_at (b := w.heap.size + 1) (by simp)) _) _) (by omega)); have HR := Sd.mk (grown_keep hn2 (box_keep (box_at (b := w.heap.size + 1 + 1) (by simp)) _) (by omega)); have HN := Sd.mk (show wz.heap[w.heap.size + 1 + 1 + 1]? = _ from hn1); have HE : Sd (Ext w wz) := ⟨Ext.over (((((Ext.refl w).alloc _).alloc _).alloc _).alloc _) hn2 (by omega)⟩; have fR := box_cell HR.out; have fN := box_cell HN.out 0; clear hn1 hn2; unfold node at fN; (try unfold sUniq at *); (try unfold sSchema at *); (try unfold sFalse at *))
    | fail)
  go_ret
  exact ⟨rfl, HE.out⟩

set_option maxHeartbeats 0 in
set_option maxRecDepth 100000 in
theorem kind_uniq (nb : Nat) (b : Bool) (n : Int) (t : ByteArray) (ns : List ByteArray) (is : List JV) (hok : ∀ i (h : i < is.length), (is[i]).Ok) (hcn : ∀ i (h : i < is.length), (is[i]).counts = true) (A : Option Addr) (c : Nat) (B : Option Addr) (d : Nat) (P : Option Addr) (lp cp : Nat) (A' : Option Addr) (ca : Nat) (N cn : Nat) (w : World) (hl : is.length ≤ 1048576) (ht : t.size ≤ 1048576) (h : JV.All w B 0 is) (j i : Nat) (hi : i < is.length) (hj : j < is.length) (hji : j < i) (he : JEq is[i] is[j]) (h0 : w.cell? ⟨N, 0, none⟩ = some (.int .i64 j)) (h1 : w.cell? ⟨N, 1, none⟩ = some (.int .i64 i)) (hb : w.heap[nb]? = some (.cells (node 0 true) 44 (0, 0))) :
    Calls Tryz.prog 42 #[.int .i64 2020, .agg (jn nb), .int .i64 1, .agg (jv 4 b n t A ns.length c B is.length d), .agg (je sUniq P lp cp A' ca (some ⟨N, 0, none⟩) 2 cn none 0 0)] w fun e w' => e = .returned (.bool true) ∧ Ext w w' := by
  have HB := Sd.mk hb
  clear hb
  have H := Sd.mk h
  have OK := Sd.mk hok
  have CN := Sd.mk hcn
  have HEQ := Sd.mk he
  have H0 := Sd.mk h0
  have H1 := Sd.mk h1
  have HT := Sd.mk ht
  clear h hok hcn he h0 h1 ht
  go_enter Tryz.func42, Tryz.ntmps42
  go_wp2_with (first
    | (refine wpList_load_row rfl 44 _ rfl nb rfl 44 (node 0 true) (0, 0) _ (box_keep (box_keep (box_keep HB.out _) _) _) Tryz.underlying44 rfl s44 ?_)
    | (refine wpList_store_row rfl 44 _ _ rfl _ (node 0 true) (node 0 false) rfl rfl 44 (box_at (by simp)) rfl s44 (o44 _ _) ?_; intro wz hn1 hn2; have HJ := Sd.mk (grown_keep hn2 (box_keep (box_keep (box_keep (box_alloc w _) _) _) _) (by omega)); have HV := Sd.mk (grown_keep hn2 (box_keep (box_keep (box_at (b := w.heap.size + 1) (by simp)) _) _) (by omega)); have HR := Sd.mk (grown_keep hn2 (box_keep (box_at (b := w.heap.size + 1 + 1) (by simp)) _) (by omega)); have HN := Sd.mk (show wz.heap[w.heap.size + 1 + 1 + 1]? = _ from hn1); have HE : Sd (Ext w wz) := ⟨Ext.over (((((Ext.refl w).alloc _).alloc _).alloc _).alloc _) hn2 (by omega)⟩; have fR := box_cell HR.out; have fN := box_cell HN.out 0; clear hn1 hn2; unfold node at fN; (try unfold sUniq at *); (try unfold sSchema at *); (try unfold sFalse at *))
    | fail)
  refine wp_region_held_drew (S := fun W => Ext wz W) (by kernel_rfl) ((Ext.refl _).drewN 1) (fun hHeld => ?_)
  refine wpAnyH_take (i := 0) (oi := { dst := some 42, op := Op.move (Operand.tmp 0), type := 3, pos := "json_errors.go:124", after := #[], guard := none }) (v := ?_) rfl (by kernel_rfl) (by kernel_rfl) (by kernel_rfl) (fun _ _ _ h => h) (Or.inl ⟨by rfl, ?_⟩) (by assumption) ?_
  rotate_left
  · (intro W hSw; go_simp; (try with_reducible rfl))
  (try simp only [Act.put, List.setIfInBounds_toArray, List.set_cons_zero, List.set_cons_succ])
  refine wpAnyH_take (i := 1) (oi := { dst := some 43, op := Op.load 63 (Operand.tmp 6), type := 63, pos := "json_errors.go:124", after := #[], guard := none }) rfl (by kernel_rfl) (by kernel_rfl) (by kernel_rfl) (fun _ _ _ h => h) (yieldsIf_load_row (by rfl) 63 _ rfl (w.heap.size) rfl 63 (jn nb) (0, 0) _ (fun W hSw => box_ext HJ.out hSw) Tryz.underlying63 rfl s63) (by assumption) ?_
  (try simp only [Act.put, List.setIfInBounds_toArray, List.set_cons_zero, List.set_cons_succ])
  refine wpAnyH_take (i := 2) (oi := { dst := some 44, op := Op.load 44 (Operand.tmp 11), type := 44, pos := "json_errors.go:124", after := #[], guard := none }) rfl (by kernel_rfl) (by kernel_rfl) (by kernel_rfl) (fun _ _ _ h => h) (yieldsIf_load_row (by rfl) 44 _ rfl (w.heap.size + 1 + 1 + 1) rfl 44 (node 0 true) (0, 0) _ (fun W hSw => box_ext HN.out hSw) Tryz.underlying44 rfl s44) (by assumption) ?_
  (try simp only [Act.put, List.setIfInBounds_toArray, List.set_cons_zero, List.set_cons_succ])
  refine wpAnyH_take (i := 3) (oi := { dst := some 45, op := Op.load 25 (Operand.tmp 8), type := 25, pos := "json_errors.go:124", after := #[], guard := none }) rfl (by kernel_rfl) (by kernel_rfl) (by kernel_rfl) (fun _ _ _ h => h) (yieldsIf_load_row (by rfl) 25 _ rfl (w.heap.size + 1) rfl 25 (jv 4 b n t A ns.length c B is.length d) (0, 0) _ (fun W hSw => box_ext HV.out hSw) Tryz.underlying25 rfl s25) (by assumption) ?_
  (try simp only [Act.put, List.setIfInBounds_toArray, List.set_cons_zero, List.set_cons_succ])
  refine wpAnyH_take (i := 4) (oi := { dst := some 46, op := Op.load 49 (Operand.tmp 9), type := 49, pos := "json_errors.go:124", after := #[], guard := none }) rfl (by kernel_rfl) (by kernel_rfl) (by kernel_rfl) (fun _ _ _ h => h) (yieldsIf_load_row (by rfl) 49 _ rfl (w.heap.size + 1 + 1) rfl 49 (je sUniq P lp cp A' ca (some ⟨N, 0, none⟩) 2 cn none 0 0) (0, 0) _ (fun W hSw => box_ext HR.out hSw) Tryz.underlying49 rfl s49) (by assumption) ?_
  (try simp only [Act.put, List.setIfInBounds_toArray, List.set_cons_zero, List.set_cons_succ])
  refine wpAnyH_ready (rs := [5]) (by kernel_rfl) (by simp) ?_
  refine AllReadyH.cons (o := { dst := some 47, op := Op.call { callee := Callee.value (Operand.func 79), args := #[Operand.tmp 42, Operand.tmp 43, Operand.tmp 44, Operand.tmp 45, Operand.tmp 46], argTypes := #[3, 63, 44, 25, 49] }, type := 4, pos := "json_errors.go:124", after := #[{ on := 0, ground := Ground.data }, { on := 1, ground := Ground.data }, { on := 2, ground := Ground.data }, { on := 3, ground := Ground.data }, { on := 4, ground := Ground.data }], guard := none }) rfl (fun K hK => ?_) AllReadyH.nil
  go_simp
  go_at_call 79; refine (place_uniq _ _ _ _ _ _ _ _ _ _ _ _ _ _ _ _ _ _ _ _ _ _ _ _ _).mono ?_; rintro e w' ⟨rfl, he⟩; (try simp only []); have hX : Ext wz w' := hHeld.trans he
  refine hK.out _ _ hX (fun hHeld => ?_)
  clear hK K
  (try simp only [Act.put, List.setIfInBounds_toArray, List.set_cons_zero, List.set_cons_succ])
  refine wpAnyH_take (i := 6) (oi := { dst := some 48, op := Op.move (Operand.tmp 47), type := 4, pos := "json_errors.go:124", after := #[{ on := 5, ground := Ground.data }, { on := 5, ground := Ground.chain }], guard := none }) (v := ?_) rfl (by kernel_rfl) (by kernel_rfl) (by kernel_rfl) (fun _ _ _ h => h) (Or.inl ⟨by rfl, ?_⟩) (by assumption) ?_
  rotate_left
  · (intro W hSw; go_simp; (try with_reducible rfl))
  (try simp only [Act.put, List.setIfInBounds_toArray, List.set_cons_zero, List.set_cons_succ])
  refine wpAnyH_take (i := 7) (oi := { dst := some 49, op := Op.load 44 (Operand.tmp 11), type := 44, pos := "json_errors.go:124", after := #[{ on := 6, ground := Ground.guard }], guard := some (6, false) }) rfl (by kernel_rfl) (by kernel_rfl) (by kernel_rfl) (fun _ _ _ h => h) (yieldsIf_load_row (by rfl) 44 _ rfl (w.heap.size + 1 + 1 + 1) rfl 44 (node 0 true) (0, 0) _ (fun W hSw => box_ext HN.out hSw) Tryz.underlying44 rfl s44) (by assumption) ?_
  (try simp only [Act.put, List.setIfInBounds_toArray, List.set_cons_zero, List.set_cons_succ])
  refine wpAnyH_take (i := 8) (oi := { dst := some 50, op := Op.load 25 (Operand.tmp 8), type := 25, pos := "json_errors.go:124", after := #[{ on := 6, ground := Ground.guard }], guard := some (6, false) }) rfl (by kernel_rfl) (by kernel_rfl) (by kernel_rfl) (fun _ _ _ h => h) (yieldsIf_load_row (by rfl) 25 _ rfl (w.heap.size + 1) rfl 25 (jv 4 b n t A ns.length c B is.length d) (0, 0) _ (fun W hSw => box_ext HV.out hSw) Tryz.underlying25 rfl s25) (by assumption) ?_
  (try simp only [Act.put, List.setIfInBounds_toArray, List.set_cons_zero, List.set_cons_succ])
  refine wpAnyH_take (i := 9) (oi := { dst := some 51, op := Op.load 49 (Operand.tmp 9), type := 49, pos := "json_errors.go:124", after := #[{ on := 6, ground := Ground.guard }], guard := some (6, false) }) rfl (by kernel_rfl) (by kernel_rfl) (by kernel_rfl) (fun _ _ _ h => h) (yieldsIf_load_row (by rfl) 49 _ rfl (w.heap.size + 1 + 1) rfl 49 (je sUniq P lp cp A' ca (some ⟨N, 0, none⟩) 2 cn none 0 0) (0, 0) _ (fun W hSw => box_ext HR.out hSw) Tryz.underlying49 rfl s49) (by assumption) ?_
  (try simp only [Act.put, List.setIfInBounds_toArray, List.set_cons_zero, List.set_cons_succ])
  refine wpAnyH_ready (rs := [10]) (by kernel_rfl) (by simp) ?_
  refine AllReadyH.cons (o := { dst := some 52, op := Op.call { callee := Callee.value (Operand.func 80), args := #[Operand.tmp 49, Operand.tmp 50, Operand.tmp 51], argTypes := #[44, 25, 49] }, type := 4, pos := "json_errors.go:124", after := #[{ on := 7, ground := Ground.data }, { on := 8, ground := Ground.data }, { on := 9, ground := Ground.data }, { on := 6, ground := Ground.chain }, { on := 6, ground := Ground.guard }], guard := some (6, false) }) rfl (fun K hK => ?_) AllReadyH.nil
  go_simp
  go_at_call 80; refine (value_c _ _ _ _ _ _ _ _ _ _ _ _ HT.out _ _ _ _ _ _ _ _ _).mono ?_; rintro e w' ⟨rfl, he⟩; (try simp only []); have hX : Ext wz w' := hHeld.trans he
  refine hK.out _ _ hX (fun hHeld => ?_)
  clear hK K
  (try simp only [Act.put, List.setIfInBounds_toArray, List.set_cons_zero, List.set_cons_succ])
  refine wpAnyH_take (i := 11) (oi := { dst := some 53, op := Op.pick (Operand.tmp 48) (Operand.const (Value.bool true)) (Operand.tmp 52), type := 4, pos := "json_errors.go:124", after := #[{ on := 6, ground := Ground.data }, { on := 10, ground := Ground.data }], guard := none }) (v := ?_) rfl (by kernel_rfl) (by kernel_rfl) (by kernel_rfl) (fun _ _ _ h => h) (Or.inl ⟨by rfl, ?_⟩) (by assumption) ?_
  rotate_left
  · (intro W hSw; go_simp; (try with_reducible rfl))
  (try simp only [Act.put, List.setIfInBounds_toArray, List.set_cons_zero, List.set_cons_succ])
  refine wpAnyH_take (i := 12) (oi := { dst := some 54, op := Op.move (Operand.tmp 53), type := 4, pos := "json_errors.go:124", after := #[{ on := 11, ground := Ground.data }, { on := 10, ground := Ground.chain }], guard := none }) (v := ?_) rfl (by kernel_rfl) (by kernel_rfl) (by kernel_rfl) (fun _ _ _ h => h) (Or.inl ⟨by rfl, ?_⟩) (by assumption) ?_
  rotate_left
  · (intro W hSw; go_simp; (try with_reducible rfl))
  (try simp only [Act.put, List.setIfInBounds_toArray, List.set_cons_zero, List.set_cons_succ])
  refine wpAnyH_take (i := 13) (oi := { dst := some 55, op := Op.load 63 (Operand.tmp 6), type := 63, pos := "json_errors.go:124", after := #[{ on := 12, ground := Ground.guard }], guard := some (12, false) }) rfl (by kernel_rfl) (by kernel_rfl) (by kernel_rfl) (fun _ _ _ h => h) (yieldsIf_load_row (by rfl) 63 _ rfl (w.heap.size) rfl 63 (jn nb) (0, 0) _ (fun W hSw => box_ext HJ.out hSw) Tryz.underlying63 rfl s63) (by assumption) ?_
  (try simp only [Act.put, List.setIfInBounds_toArray, List.set_cons_zero, List.set_cons_succ])
  refine wpAnyH_take (i := 14) (oi := { dst := some 56, op := Op.move (Operand.tmp 2), type := 3, pos := "json_errors.go:124", after := #[{ on := 12, ground := Ground.guard }], guard := some (12, false) }) (v := ?_) rfl (by kernel_rfl) (by kernel_rfl) (by kernel_rfl) (fun _ _ _ h => h) (Or.inl ⟨by rfl, ?_⟩) (by assumption) ?_
  rotate_left
  · (intro W hSw; go_simp; (try with_reducible rfl))
  (try simp only [Act.put, List.setIfInBounds_toArray, List.set_cons_zero, List.set_cons_succ])
  refine wpAnyH_take (i := 16) (oi := { dst := some 58, op := Op.load 25 (Operand.tmp 8), type := 25, pos := "json_errors.go:124", after := #[{ on := 12, ground := Ground.guard }], guard := some (12, false) }) rfl (by kernel_rfl) (by kernel_rfl) (by kernel_rfl) (fun _ _ _ h => h) (yieldsIf_load_row (by rfl) 25 _ rfl (w.heap.size + 1) rfl 25 (jv 4 b n t A ns.length c B is.length d) (0, 0) _ (fun W hSw => box_ext HV.out hSw) Tryz.underlying25 rfl s25) (by assumption) ?_
  (try simp only [Act.put, List.setIfInBounds_toArray, List.set_cons_zero, List.set_cons_succ])
  refine wpAnyH_take (i := 17) (oi := { dst := some 59, op := Op.load 49 (Operand.tmp 9), type := 49, pos := "json_errors.go:124", after := #[{ on := 12, ground := Ground.guard }], guard := some (12, false) }) rfl (by kernel_rfl) (by kernel_rfl) (by kernel_rfl) (fun _ _ _ h => h) (yieldsIf_load_row (by rfl) 49 _ rfl (w.heap.size + 1 + 1) rfl 49 (je sUniq P lp cp A' ca (some ⟨N, 0, none⟩) 2 cn none 0 0) (0, 0) _ (fun W hSw => box_ext HR.out hSw) Tryz.underlying49 rfl s49) (by assumption) ?_
  (try simp only [Act.put, List.setIfInBounds_toArray, List.set_cons_zero, List.set_cons_succ])
  refine wpAnyH_ready (rs := [15]) (by kernel_rfl) (by simp) ?_
  refine AllReadyH.cons (o := { dst := some 57, op := Op.call { callee := Callee.value (Operand.func 33), args := #[Operand.tmp 55, Operand.tmp 56], argTypes := #[63, 3] }, type := 82, pos := "json_errors.go:124", after := #[{ on := 13, ground := Ground.data }, { on := 14, ground := Ground.data }, { on := 12, ground := Ground.chain }, { on := 12, ground := Ground.guard }], guard := some (12, false) }) rfl (fun K hK => ?_) AllReadyH.nil
  go_simp
  go_at_call 33; refine (keep_c _ _).mono ?_; rintro e w' ⟨rfl, he⟩; (try simp only []); have hX : Ext wz w' := hHeld.trans he
  refine hK.out _ _ hX (fun hHeld => ?_)
  clear hK K
  (try simp only [Act.put, List.setIfInBounds_toArray, List.set_cons_zero, List.set_cons_succ])
  refine wpAnyH_ready (rs := [18]) (by kernel_rfl) (by simp) ?_
  refine AllReadyH.cons (o := { dst := some 60, op := Op.call { callee := Callee.value (Operand.func 81), args := #[Operand.tmp 57, Operand.tmp 58, Operand.tmp 59], argTypes := #[82, 25, 49] }, type := 4, pos := "json_errors.go:124", after := #[{ on := 15, ground := Ground.data }, { on := 16, ground := Ground.data }, { on := 17, ground := Ground.data }, { on := 15, ground := Ground.chain }, { on := 12, ground := Ground.guard }], guard := some (12, false) }) rfl (fun K hK => ?_) AllReadyH.nil
  go_simp
  go_at_call 81; refine (number_c _ _ _ _ _ _ _ _ _ _ (by decide) _ _ _ _ _ _ _ _ _ _ _ _ _).mono ?_; rintro e w' ⟨rfl, he⟩; (try simp only []); have hX : Ext wz w' := hHeld.trans he
  refine hK.out _ _ hX (fun hHeld => ?_)
  clear hK K
  (try simp only [Act.put, List.setIfInBounds_toArray, List.set_cons_zero, List.set_cons_succ])
  refine wpAnyH_take (i := 19) (oi := { dst := some 61, op := Op.pick (Operand.tmp 54) (Operand.const (Value.bool true)) (Operand.tmp 60), type := 4, pos := "json_errors.go:124", after := #[{ on := 12, ground := Ground.data }, { on := 18, ground := Ground.data }], guard := none }) (v := ?_) rfl (by kernel_rfl) (by kernel_rfl) (by kernel_rfl) (fun _ _ _ h => h) (Or.inl ⟨by rfl, ?_⟩) (by assumption) ?_
  rotate_left
  · (intro W hSw; go_simp; (try with_reducible rfl))
  (try simp only [Act.put, List.setIfInBounds_toArray, List.set_cons_zero, List.set_cons_succ])
  refine wpAnyH_take (i := 20) (oi := { dst := some 62, op := Op.move (Operand.tmp 61), type := 4, pos := "json_errors.go:124", after := #[{ on := 19, ground := Ground.data }, { on := 18, ground := Ground.chain }], guard := none }) (v := ?_) rfl (by kernel_rfl) (by kernel_rfl) (by kernel_rfl) (fun _ _ _ h => h) (Or.inl ⟨by rfl, ?_⟩) (by assumption) ?_
  rotate_left
  · (intro W hSw; go_simp; (try with_reducible rfl))
  (try simp only [Act.put, List.setIfInBounds_toArray, List.set_cons_zero, List.set_cons_succ])
  refine wpAnyH_take (i := 21) (oi := { dst := some 63, op := Op.move (Operand.tmp 0), type := 3, pos := "json_errors.go:124", after := #[{ on := 20, ground := Ground.guard }], guard := some (20, false) }) (v := ?_) rfl (by kernel_rfl) (by kernel_rfl) (by kernel_rfl) (fun _ _ _ h => h) (Or.inl ⟨by rfl, ?_⟩) (by assumption) ?_
  rotate_left
  · (intro W hSw; go_simp; (try with_reducible rfl))
  (try simp only [Act.put, List.setIfInBounds_toArray, List.set_cons_zero, List.set_cons_succ])
  refine wpAnyH_take (i := 22) (oi := { dst := some 64, op := Op.load 63 (Operand.tmp 6), type := 63, pos := "json_errors.go:124", after := #[{ on := 20, ground := Ground.guard }], guard := some (20, false) }) rfl (by kernel_rfl) (by kernel_rfl) (by kernel_rfl) (fun _ _ _ h => h) (yieldsIf_load_row (by rfl) 63 _ rfl (w.heap.size) rfl 63 (jn nb) (0, 0) _ (fun W hSw => box_ext HJ.out hSw) Tryz.underlying63 rfl s63) (by assumption) ?_
  (try simp only [Act.put, List.setIfInBounds_toArray, List.set_cons_zero, List.set_cons_succ])
  refine wpAnyH_take (i := 23) (oi := { dst := some 65, op := Op.load 44 (Operand.tmp 11), type := 44, pos := "json_errors.go:124", after := #[{ on := 20, ground := Ground.guard }], guard := some (20, false) }) rfl (by kernel_rfl) (by kernel_rfl) (by kernel_rfl) (fun _ _ _ h => h) (yieldsIf_load_row (by rfl) 44 _ rfl (w.heap.size + 1 + 1 + 1) rfl 44 (node 0 true) (0, 0) _ (fun W hSw => box_ext HN.out hSw) Tryz.underlying44 rfl s44) (by assumption) ?_
  (try simp only [Act.put, List.setIfInBounds_toArray, List.set_cons_zero, List.set_cons_succ])
  refine wpAnyH_take (i := 24) (oi := { dst := some 66, op := Op.load 25 (Operand.tmp 8), type := 25, pos := "json_errors.go:124", after := #[{ on := 20, ground := Ground.guard }], guard := some (20, false) }) rfl (by kernel_rfl) (by kernel_rfl) (by kernel_rfl) (fun _ _ _ h => h) (yieldsIf_load_row (by rfl) 25 _ rfl (w.heap.size + 1) rfl 25 (jv 4 b n t A ns.length c B is.length d) (0, 0) _ (fun W hSw => box_ext HV.out hSw) Tryz.underlying25 rfl s25) (by assumption) ?_
  (try simp only [Act.put, List.setIfInBounds_toArray, List.set_cons_zero, List.set_cons_succ])
  refine wpAnyH_take (i := 25) (oi := { dst := some 67, op := Op.load 49 (Operand.tmp 9), type := 49, pos := "json_errors.go:124", after := #[{ on := 20, ground := Ground.guard }], guard := some (20, false) }) rfl (by kernel_rfl) (by kernel_rfl) (by kernel_rfl) (fun _ _ _ h => h) (yieldsIf_load_row (by rfl) 49 _ rfl (w.heap.size + 1 + 1) rfl 49 (je sUniq P lp cp A' ca (some ⟨N, 0, none⟩) 2 cn none 0 0) (0, 0) _ (fun W hSw => box_ext HR.out hSw) Tryz.underlying49 rfl s49) (by assumption) ?_
  (try simp only [Act.put, List.setIfInBounds_toArray, List.set_cons_zero, List.set_cons_succ])
  refine wpAnyH_ready (rs := [26]) (by kernel_rfl) (by simp) ?_
  refine AllReadyH.cons (o := { dst := some 68, op := Op.call { callee := Callee.value (Operand.func 82), args := #[Operand.tmp 63, Operand.tmp 64, Operand.tmp 65, Operand.tmp 66, Operand.tmp 67], argTypes := #[3, 63, 44, 25, 49] }, type := 4, pos := "json_errors.go:124", after := #[{ on := 21, ground := Ground.data }, { on := 22, ground := Ground.data }, { on := 23, ground := Ground.data }, { on := 24, ground := Ground.data }, { on := 25, ground := Ground.data }, { on := 20, ground := Ground.chain }, { on := 20, ground := Ground.guard }], guard := some (20, false) }) rfl (fun K hK => ?_) AllReadyH.nil
  go_simp
  go_at_call 82; refine (array_c _ _ _ _ _ _ is OK.out CN.out _ _ _ _ _ hl (H.out.ext (HE.out.trans hHeld)) j i hi hj hji HEQ.out _ _ ((HE.out.trans hHeld).cell H0.out) ((HE.out.trans hHeld).cell H1.out) _ _ _ _ _ _ _ _).mono ?_; rintro e w' ⟨rfl, he⟩; (try simp only []); have hX : Ext wz w' := hHeld.trans he
  refine hK.out _ _ hX (fun hHeld => ?_)
  clear hK K
  (try simp only [Act.put, List.setIfInBounds_toArray, List.set_cons_zero, List.set_cons_succ])
  refine wpAnyH_take (i := 27) (oi := { dst := some 69, op := Op.pick (Operand.tmp 62) (Operand.const (Value.bool true)) (Operand.tmp 68), type := 4, pos := "json_errors.go:124", after := #[{ on := 20, ground := Ground.data }, { on := 26, ground := Ground.data }], guard := none }) (v := ?_) rfl (by kernel_rfl) (by kernel_rfl) (by kernel_rfl) (fun _ _ _ h => h) (Or.inl ⟨by rfl, ?_⟩) (by assumption) ?_
  rotate_left
  · (intro W hSw; go_simp; (try with_reducible rfl))
  (try simp only [Act.put, List.setIfInBounds_toArray, List.set_cons_zero, List.set_cons_succ])
  refine wpAnyH_take (i := 28) (oi := { dst := some 70, op := Op.move (Operand.tmp 69), type := 4, pos := "json_errors.go:124", after := #[{ on := 27, ground := Ground.data }, { on := 26, ground := Ground.chain }], guard := none }) (v := ?_) rfl (by kernel_rfl) (by kernel_rfl) (by kernel_rfl) (fun _ _ _ h => h) (Or.inl ⟨by rfl, ?_⟩) (by assumption) ?_
  rotate_left
  · (intro W hSw; go_simp; (try with_reducible rfl))
  (try simp only [Act.put, List.setIfInBounds_toArray, List.set_cons_zero, List.set_cons_succ])
  refine wpAnyH_take (i := 29) (oi := { dst := some 71, op := Op.load 44 (Operand.tmp 11), type := 44, pos := "json_errors.go:124", after := #[{ on := 28, ground := Ground.guard }], guard := some (28, false) }) rfl (by kernel_rfl) (by kernel_rfl) (by kernel_rfl) (fun _ _ _ h => h) (yieldsIf_skip (by rfl)) (by assumption) ?_
  (try simp only [Act.put, List.setIfInBounds_toArray, List.set_cons_zero, List.set_cons_succ])
  refine wpAnyH_take (i := 30) (oi := { dst := some 72, op := Op.load 25 (Operand.tmp 8), type := 25, pos := "json_errors.go:124", after := #[{ on := 28, ground := Ground.guard }], guard := some (28, false) }) rfl (by kernel_rfl) (by kernel_rfl) (by kernel_rfl) (fun _ _ _ h => h) (yieldsIf_skip (by rfl)) (by assumption) ?_
  (try simp only [Act.put, List.setIfInBounds_toArray, List.set_cons_zero, List.set_cons_succ])
  refine wpAnyH_take (i := 31) (oi := { dst := some 73, op := Op.load 49 (Operand.tmp 9), type := 49, pos := "json_errors.go:124", after := #[{ on := 28, ground := Ground.guard }], guard := some (28, false) }) rfl (by kernel_rfl) (by kernel_rfl) (by kernel_rfl) (fun _ _ _ h => h) (yieldsIf_skip (by rfl)) (by assumption) ?_
  (try simp only [Act.put, List.setIfInBounds_toArray, List.set_cons_zero, List.set_cons_succ])
  refine wpAnyH_take (i := 32) (oi := { dst := some 74, op := Op.call { callee := Callee.value (Operand.func 83), args := #[Operand.tmp 71, Operand.tmp 72, Operand.tmp 73], argTypes := #[44, 25, 49] }, type := 4, pos := "json_errors.go:124", after := #[{ on := 29, ground := Ground.data }, { on := 30, ground := Ground.data }, { on := 31, ground := Ground.data }, { on := 28, ground := Ground.chain }, { on := 28, ground := Ground.guard }], guard := some (28, false) }) rfl (by kernel_rfl) (by kernel_rfl) (by kernel_rfl) (fun _ _ _ h => h) (yieldsIf_skip (by rfl)) (by assumption) ?_
  (try simp only [Act.put, List.setIfInBounds_toArray, List.set_cons_zero, List.set_cons_succ])
  refine wpAnyH_take (i := 33) (oi := { dst := some 75, op := Op.pick (Operand.tmp 70) (Operand.const (Value.bool true)) (Operand.tmp 74), type := 4, pos := "json_errors.go:124", after := #[{ on := 28, ground := Ground.data }, { on := 32, ground := Ground.data }], guard := none }) (v := ?_) rfl (by kernel_rfl) (by kernel_rfl) (by kernel_rfl) (fun _ _ _ h => h) (Or.inl ⟨by rfl, ?_⟩) (by assumption) ?_
  rotate_left
  · (intro W hSw; go_simp; (try with_reducible rfl))
  (try simp only [Act.put, List.setIfInBounds_toArray, List.set_cons_zero, List.set_cons_succ])
  refine wpAnyH_take (i := 34) (oi := { dst := some 10, op := Op.assign (Operand.tmp 75), type := 4, pos := "json_errors.go:124", after := #[{ on := 33, ground := Ground.data }, { on := 32, ground := Ground.chain }, { on := 0, ground := Ground.phase }, { on := 1, ground := Ground.phase }, { on := 2, ground := Ground.phase }, { on := 3, ground := Ground.phase }, { on := 4, ground := Ground.phase }, { on := 5, ground := Ground.phase }, { on := 6, ground := Ground.phase }, { on := 7, ground := Ground.phase }, { on := 8, ground := Ground.phase }, { on := 9, ground := Ground.phase }, { on := 10, ground := Ground.phase }, { on := 11, ground := Ground.phase }, { on := 12, ground := Ground.phase }, { on := 13, ground := Ground.phase }, { on := 14, ground := Ground.phase }, { on := 15, ground := Ground.phase }, { on := 16, ground := Ground.phase }, { on := 17, ground := Ground.phase }, { on := 18, ground := Ground.phase }, { on := 19, ground := Ground.phase }, { on := 20, ground := Ground.phase }, { on := 21, ground := Ground.phase }, { on := 22, ground := Ground.phase }, { on := 23, ground := Ground.phase }, { on := 24, ground := Ground.phase }, { on := 25, ground := Ground.phase }, { on := 26, ground := Ground.phase }, { on := 27, ground := Ground.phase }, { on := 28, ground := Ground.phase }, { on := 29, ground := Ground.phase }, { on := 30, ground := Ground.phase }, { on := 31, ground := Ground.phase }, { on := 32, ground := Ground.phase }, { on := 33, ground := Ground.phase }], guard := none }) (v := ?_) rfl (by kernel_rfl) (by kernel_rfl) (by kernel_rfl) (fun _ _ _ h => h) (Or.inl ⟨by rfl, ?_⟩) (by assumption) ?_
  rotate_left
  · (intro W hSw; go_simp; (try with_reducible rfl))
  (try simp only [Act.put, List.setIfInBounds_toArray, List.set_cons_zero, List.set_cons_succ])
  refine wpAnyH_done (by kernel_rfl) ?_ _
  have HX := Sd.mk hHeld
  clear hHeld
  go_wp2_with fail
  go_ret
  exact ⟨rfl, HE.out.trans HX.out⟩

end Go.Proofs.YtgkjdgolffnagaaGreatDoor
