/- Parts of the proof of the statement that this folder hands in: lemmas and contracts (Kn). -/
import Derived.Test.YtgkjdgolffnagaaGreatDoorKm
set_option linter.unusedSimpArgs false
set_option linter.unusedVariables false
namespace Go.Proofs.YtgkjdgolffnagaaGreatDoor
open Go.RowKit

theorem closure_c (nb sb : Nat) (w : World) (h : w.heap[sb]? = some (.cells #[.slice (some ⟨nb, 0, none⟩) 1 1] 30 (0, 0))) :
    Calls Tryz.prog 22 #[.string one, .pointer (some ⟨sb, 0, none⟩)] w fun e w' => e = .returned (.slice (some ⟨w.heap.size, 0, none⟩) 1 1) ∧ w' = w.alloc (.cells #[.int .i64 1] 3) := by
  have f := box_cell h 0
  clear h
  go_enter Tryz.func22, Tryz.ntmps22
  go_wp2_with (go_at_call 23; refine (named_one _ _).mono ?_; rintro e w' ⟨rfl, rfl⟩)
  go_ret
  exact ⟨rfl, rfl⟩

set_option maxHeartbeats 0 in
set_option maxRecDepth 100000 in
theorem err_kid (nb sb : Nat) (k : Int) (b : Bool) (n : Int) (t : ByteArray) (A : Option Addr) (la c : Nat) (B : Option Addr) (lb d : Nat) (kd : ByteArray) (P : Option Addr) (lp cp : Nat) (A' : Option Addr) (ca : Nat) (N : Option Addr) (ln cn : Nat) (w : World) (hsb : w.heap[sb]? = some (.cells #[.slice (some ⟨nb, 0, none⟩) 1 1] 30 (0, 0)))
    (hpath : ∀ w', Ext w w' → Calls Tryz.prog 40 #[.agg (je kd P lp cp A' ca N ln cn none 0 0)] w' fun e w'' => e = .returned (.bool true) ∧ Ext w' w'')
    (htk : ∀ w', Ext w w' → Calls Tryz.prog 41 #[.int .i64 2020, .agg (jn nb), .int .i64 1, .agg (jv k b n t A la c B lb d)] w' fun e w'' => e = .returned (.bool false) ∧ Ext w' w'')
    (hkd : ∀ w', Ext w w' → Calls Tryz.prog 42 #[.int .i64 2020, .agg (jn nb), .int .i64 1, .agg (jv k b n t A la c B lb d), .agg (je kd P lp cp A' ca N ln cn none 0 0)] w' fun e w'' => e = .returned (.bool true) ∧ Ext w' w'') :
    Calls Tryz.prog 21 #[.int .i64 2020, .agg (jn nb), (.func (.func 22) #[] #[.pointer (some ⟨sb, 0, none⟩)]), .agg (jv k b n t A la c B lb d), .agg (je kd P lp cp A' ca N ln cn none 0 0)] w fun e w' => e = .returned (.bool true) ∧ Ext w w' := by
  have HSB := Sd.mk hsb
  have HPA := Sd.mk hpath
  have HTK := Sd.mk htk
  have HKD := Sd.mk hkd
  clear hsb hpath htk hkd
  go_enter Tryz.func21, Tryz.ntmps21
  go_wp2_with (first
    | (go_at_call 39; refine (part_c _ _ _ _ _ _ _ _ _ _ _ _ _).mono ?_; rintro e wp ⟨rfl, he⟩; have HJ := Sd.mk (box_ext (box_keep (box_keep (box_alloc w _) _) _) he); have HV := Sd.mk (box_ext (box_keep (box_at (b := w.heap.size + 1) (by simp)) _) he); have HR := Sd.mk (box_ext (box_at (b := w.heap.size + 1 + 1) (by simp)) he); have HE := Sd.mk (((((Ext.refl w).alloc _).alloc _).alloc _).trans he); clear he)
    | (refine wpList_store_row rfl 25 _ _ rfl _ (jv k b n t A la c B lb d) _ rfl rfl 25 (box_alloc _ _) rfl s25 (o25 _ _ _ _ _ _ _ _ _ _) ?_; intro wz hn1 hn2; have hzz := HE.out.size; have HX : Sd (Ext wp wz) := ⟨Ext.over ((Ext.refl wp).alloc _) hn2 (Nat.le_refl _)⟩; have HP := Sd.mk hn1; have HJ := Sd.mk (box_ext HJ.out HX.out); have HV := Sd.mk (box_ext HV.out HX.out); have HR := Sd.mk (box_ext HR.out HX.out); have HE := Sd.mk (HE.out.trans HX.out); clear hn1 hn2 hzz HX; have fR := box_cell HR.out)
    | (go_at_call 40; refine (HPA.out _ HE.out).mono ?_; rintro e wy ⟨rfl, he⟩; have HP := Sd.mk (box_ext HP.out he); have HJ := Sd.mk (box_ext HJ.out he); have HV := Sd.mk (box_ext HV.out he); have HR := Sd.mk (box_ext HR.out he); have HE := Sd.mk (HE.out.trans he); clear he; have fR := box_cell HR.out)
    | (go_at_call 22; refine (closure_c _ _ _ (box_ext HSB.out HE.out)).mono ?_; rintro e wc ⟨rfl, rfl⟩)
    | fail)
  generalize hbp : wp.heap.size = bp at *
  generalize hlb : wy.heap.size = lb0 at *
  have hlc : (wy.alloc (.cells #[.int .i64 1] 3)).cell? ⟨lb0, 0, none⟩ = some (.int .i64 1) := by rw [← hlb]; exact box_cell (box_alloc wy _) 0
  have HP := Sd.mk (box_keep HP.out (.cells #[.int .i64 1] 3))
  have HJ := Sd.mk (box_keep HJ.out (.cells #[.int .i64 1] 3))
  have HV := Sd.mk (box_keep HV.out (.cells #[.int .i64 1] 3))
  have HR := Sd.mk (box_keep HR.out (.cells #[.int .i64 1] 3))
  have HE := Sd.mk (HE.out.alloc (.cells #[.int .i64 1] 3))
  clear fR hlb hbp
  generalize wy.alloc (.cells #[.int .i64 1] 3) = wy at *
  have fR := box_cell HR.out
  refine wp_loop_rounds 2 ?_
  rw [rounds_succ]
  go_wp2_with fail
  refine wp_region_held_drew (S := fun W => Ext wy W) (by kernel_rfl) ((Ext.refl _).drewN 1) (fun hHeld => ?_)
  refine wpAnyH_take (i := 0) (oi := { dst := some 41, op := Op.move (Operand.tmp 14), type := 4, pos := "json_errors.go:81", after := #[], guard := none }) (v := ?_) rfl (by kernel_rfl) (by kernel_rfl) (by kernel_rfl) (fun _ _ _ h => h) (Or.inl ⟨by rfl, ?_⟩) (by assumption) ?_
  rotate_left
  · (intro W hSw; have y0 := hSw.cell hlc; go_simp; (try with_reducible rfl))
  (try simp only [Act.put, List.setIfInBounds_toArray, List.set_cons_zero, List.set_cons_succ])
  refine wpAnyH_take (i := 1) (oi := { dst := some 42, op := Op.move (Operand.tmp 41), type := 4, pos := "json_errors.go:81", after := #[{ on := 0, ground := Ground.data }], guard := none }) (v := ?_) rfl (by kernel_rfl) (by kernel_rfl) (by kernel_rfl) (fun _ _ _ h => h) (Or.inl ⟨by rfl, ?_⟩) (by assumption) ?_
  rotate_left
  · (intro W hSw; have y0 := hSw.cell hlc; go_simp; (try with_reducible rfl))
  (try simp only [Act.put, List.setIfInBounds_toArray, List.set_cons_zero, List.set_cons_succ])
  refine wpAnyH_take (i := 2) (oi := { dst := some 43, op := Op.move (Operand.tmp 13), type := 32, pos := "json_errors.go:81", after := #[{ on := 1, ground := Ground.guard }], guard := some (1, false) }) (v := ?_) rfl (by kernel_rfl) (by kernel_rfl) (by kernel_rfl) (fun _ _ _ h => h) (Or.inl ⟨by rfl, ?_⟩) (by assumption) ?_
  rotate_left
  · (intro W hSw; have y0 := hSw.cell hlc; go_simp; (try with_reducible rfl))
  (try simp only [Act.put, List.setIfInBounds_toArray, List.set_cons_zero, List.set_cons_succ])
  refine wpAnyH_take (i := 3) (oi := { dst := some 44, op := Op.move (Operand.tmp 15), type := 3, pos := "json_errors.go:81", after := #[{ on := 1, ground := Ground.guard }], guard := some (1, false) }) (v := ?_) rfl (by kernel_rfl) (by kernel_rfl) (by kernel_rfl) (fun _ _ _ h => h) (Or.inl ⟨by rfl, ?_⟩) (by assumption) ?_
  rotate_left
  · (intro W hSw; have y0 := hSw.cell hlc; go_simp; (try with_reducible rfl))
  (try simp only [Act.put, List.setIfInBounds_toArray, List.set_cons_zero, List.set_cons_succ])
  refine wpAnyH_take (i := 4) (oi := { dst := some 45, op := Op.indexAddr 32 (Operand.tmp 43) (Operand.tmp 44), type := 0, pos := "json_errors.go:81", after := #[{ on := 2, ground := Ground.data }, { on := 3, ground := Ground.data }, { on := 1, ground := Ground.guard }], guard := some (1, false) }) (v := ?_) rfl (by kernel_rfl) (by kernel_rfl) (by kernel_rfl) (fun _ _ _ h => h) (Or.inl ⟨by rfl, ?_⟩) (by assumption) ?_
  rotate_left
  · (intro W hSw; have y0 := hSw.cell hlc; go_simp; (try with_reducible rfl))
  (try simp only [Act.put, List.setIfInBounds_toArray, List.set_cons_zero, List.set_cons_succ])
  refine wpAnyH_take (i := 5) (oi := { dst := some 46, op := Op.load 3 (Operand.tmp 45), type := 3, pos := "json_errors.go:81", after := #[{ on := 4, ground := Ground.data }, { on := 1, ground := Ground.guard }], guard := some (1, false) }) (v := ?_) rfl (by kernel_rfl) (by kernel_rfl) (by kernel_rfl) (fun _ _ _ h => h) (Or.inl ⟨by rfl, ?_⟩) (by assumption) ?_
  rotate_left
  · (intro W hSw; have y0 := hSw.cell hlc; go_simp; (try with_reducible rfl))
  (try simp only [Act.put, List.setIfInBounds_toArray, List.set_cons_zero, List.set_cons_succ])
  refine wpAnyH_take (i := 6) (oi := { dst := some 47, op := Op.binOp BinOp.gtr 3 (Operand.tmp 46) (Operand.const (Value.int IntKind.i64 0)) 3, type := 4, pos := "json_errors.go:81", after := #[{ on := 5, ground := Ground.data }, { on := 1, ground := Ground.guard }], guard := some (1, false) }) (v := ?_) rfl (by kernel_rfl) (by kernel_rfl) (by kernel_rfl) (fun _ _ _ h => h) (Or.inl ⟨by rfl, ?_⟩) (by assumption) ?_
  rotate_left
  · (intro W hSw; have y0 := hSw.cell hlc; go_simp; (try with_reducible rfl))
  (try simp only [Act.put, List.setIfInBounds_toArray, List.set_cons_zero, List.set_cons_succ])
  refine wpAnyH_take (i := 7) (oi := { dst := some 48, op := Op.move (Operand.tmp 47), type := 4, pos := "json_errors.go:81", after := #[{ on := 6, ground := Ground.data }, { on := 1, ground := Ground.chain }, { on := 1, ground := Ground.guard }], guard := some (1, false) }) (v := ?_) rfl (by kernel_rfl) (by kernel_rfl) (by kernel_rfl) (fun _ _ _ h => h) (Or.inl ⟨by rfl, ?_⟩) (by assumption) ?_
  rotate_left
  · (intro W hSw; have y0 := hSw.cell hlc; go_simp; (try with_reducible rfl))
  (try simp only [Act.put, List.setIfInBounds_toArray, List.set_cons_zero, List.set_cons_succ])
  refine wpAnyH_take (i := 8) (oi := { dst := some 49, op := Op.move (Operand.tmp 0), type := 3, pos := "json_errors.go:81", after := #[{ on := 7, ground := Ground.guard }], guard := some (7, true) }) (v := ?_) rfl (by kernel_rfl) (by kernel_rfl) (by kernel_rfl) (fun _ _ _ h => h) (Or.inl ⟨by rfl, ?_⟩) (by assumption) ?_
  rotate_left
  · (intro W hSw; have y0 := hSw.cell hlc; go_simp; (try with_reducible rfl))
  (try simp only [Act.put, List.setIfInBounds_toArray, List.set_cons_zero, List.set_cons_succ])
  refine wpAnyH_take (i := 9) (oi := { dst := some 50, op := Op.load 63 (Operand.tmp 6), type := 63, pos := "json_errors.go:81", after := #[{ on := 7, ground := Ground.guard }], guard := some (7, true) }) rfl (by kernel_rfl) (by kernel_rfl) (by kernel_rfl) (fun _ _ _ h => h) (yieldsIf_load_row (by rfl) 63 _ rfl (w.heap.size) rfl 63 (jn nb) (0, 0) _ (fun W hSw => box_ext HJ.out hSw) Tryz.underlying63 rfl s63) (by assumption) ?_
  (try simp only [Act.put, List.setIfInBounds_toArray, List.set_cons_zero, List.set_cons_succ])
  refine wpAnyH_take (i := 10) (oi := { dst := some 51, op := Op.move (Operand.tmp 13), type := 32, pos := "json_errors.go:81", after := #[{ on := 7, ground := Ground.guard }], guard := some (7, true) }) (v := ?_) rfl (by kernel_rfl) (by kernel_rfl) (by kernel_rfl) (fun _ _ _ h => h) (Or.inl ⟨by rfl, ?_⟩) (by assumption) ?_
  rotate_left
  · (intro W hSw; have y0 := hSw.cell hlc; go_simp; (try with_reducible rfl))
  (try simp only [Act.put, List.setIfInBounds_toArray, List.set_cons_zero, List.set_cons_succ])
  refine wpAnyH_take (i := 11) (oi := { dst := some 52, op := Op.move (Operand.tmp 15), type := 3, pos := "json_errors.go:81", after := #[{ on := 7, ground := Ground.guard }], guard := some (7, true) }) (v := ?_) rfl (by kernel_rfl) (by kernel_rfl) (by kernel_rfl) (fun _ _ _ h => h) (Or.inl ⟨by rfl, ?_⟩) (by assumption) ?_
  rotate_left
  · (intro W hSw; have y0 := hSw.cell hlc; go_simp; (try with_reducible rfl))
  (try simp only [Act.put, List.setIfInBounds_toArray, List.set_cons_zero, List.set_cons_succ])
  refine wpAnyH_take (i := 12) (oi := { dst := some 53, op := Op.indexAddr 32 (Operand.tmp 51) (Operand.tmp 52), type := 0, pos := "json_errors.go:81", after := #[{ on := 10, ground := Ground.data }, { on := 11, ground := Ground.data }, { on := 7, ground := Ground.guard }], guard := some (7, true) }) (v := ?_) rfl (by kernel_rfl) (by kernel_rfl) (by kernel_rfl) (fun _ _ _ h => h) (Or.inl ⟨by rfl, ?_⟩) (by assumption) ?_
  rotate_left
  · (intro W hSw; have y0 := hSw.cell hlc; go_simp; (try with_reducible rfl))
  (try simp only [Act.put, List.setIfInBounds_toArray, List.set_cons_zero, List.set_cons_succ])
  refine wpAnyH_take (i := 13) (oi := { dst := some 54, op := Op.load 3 (Operand.tmp 53), type := 3, pos := "json_errors.go:81", after := #[{ on := 12, ground := Ground.data }, { on := 7, ground := Ground.guard }], guard := some (7, true) }) (v := ?_) rfl (by kernel_rfl) (by kernel_rfl) (by kernel_rfl) (fun _ _ _ h => h) (Or.inl ⟨by rfl, ?_⟩) (by assumption) ?_
  rotate_left
  · (intro W hSw; have y0 := hSw.cell hlc; go_simp; (try with_reducible rfl))
  (try simp only [Act.put, List.setIfInBounds_toArray, List.set_cons_zero, List.set_cons_succ])
  refine wpAnyH_take (i := 14) (oi := { dst := some 55, op := Op.load 25 (Operand.tmp 11), type := 25, pos := "json_errors.go:81", after := #[{ on := 7, ground := Ground.guard }], guard := some (7, true) }) rfl (by kernel_rfl) (by kernel_rfl) (by kernel_rfl) (fun _ _ _ h => h) (yieldsIf_load_row (by rfl) 25 _ rfl bp rfl 25 (jv k b n t A la c B lb d) (0, 0) _ (fun W hSw => box_ext HP.out hSw) Tryz.underlying25 rfl s25) (by assumption) ?_
  (try simp only [Act.put, List.setIfInBounds_toArray, List.set_cons_zero, List.set_cons_succ])
  refine wpAnyH_ready (rs := [15]) (by kernel_rfl) (by simp) ?_
  refine AllReadyH.cons (o := { dst := some 56, op := Op.call { callee := Callee.value (Operand.func 41), args := #[Operand.tmp 49, Operand.tmp 50, Operand.tmp 54, Operand.tmp 55], argTypes := #[3, 63, 3, 25] }, type := 4, pos := "json_errors.go:81", after := #[{ on := 8, ground := Ground.data }, { on := 9, ground := Ground.data }, { on := 13, ground := Ground.data }, { on := 14, ground := Ground.data }, { on := 7, ground := Ground.chain }, { on := 7, ground := Ground.guard }], guard := some (7, true) }) rfl (fun K hK => ?_) AllReadyH.nil
  go_simp
  go_at_call 41; refine (HTK.out _ (HE.out.trans hHeld)).mono ?_; rintro e w' ⟨rfl, he⟩; (try simp only []); have hX : Ext wy w' := hHeld.trans he
  refine hK.out _ _ hX (fun hHeld => ?_)
  clear hK K
  (try simp only [Act.put, List.setIfInBounds_toArray, List.set_cons_zero, List.set_cons_succ])
  refine wpAnyH_take (i := 16) (oi := { dst := some 57, op := Op.unOp UnOp.not 4 (Operand.tmp 56), type := 4, pos := "json_errors.go:81", after := #[{ on := 15, ground := Ground.data }, { on := 7, ground := Ground.guard }], guard := some (7, true) }) (v := ?_) rfl (by kernel_rfl) (by kernel_rfl) (by kernel_rfl) (fun _ _ _ h => h) (Or.inl ⟨by rfl, ?_⟩) (by assumption) ?_
  rotate_left
  · (intro W hSw; have y0 := hSw.cell hlc; go_simp; (try with_reducible rfl))
  (try simp only [Act.put, List.setIfInBounds_toArray, List.set_cons_zero, List.set_cons_succ])
  refine wpAnyH_take (i := 17) (oi := { dst := some 58, op := Op.pick (Operand.tmp 48) (Operand.tmp 57) (Operand.const (Value.bool false)), type := 4, pos := "json_errors.go:81", after := #[{ on := 7, ground := Ground.data }, { on := 16, ground := Ground.data }, { on := 1, ground := Ground.guard }], guard := some (1, false) }) (v := ?_) rfl (by kernel_rfl) (by kernel_rfl) (by kernel_rfl) (fun _ _ _ h => h) (Or.inl ⟨by rfl, ?_⟩) (by assumption) ?_
  rotate_left
  · (intro W hSw; have y0 := hSw.cell hlc; go_simp; (try with_reducible rfl))
  (try simp only [Act.put, List.setIfInBounds_toArray, List.set_cons_zero, List.set_cons_succ])
  refine wpAnyH_take (i := 18) (oi := { dst := some 59, op := Op.move (Operand.tmp 58), type := 4, pos := "json_errors.go:81", after := #[{ on := 17, ground := Ground.data }, { on := 15, ground := Ground.chain }, { on := 1, ground := Ground.guard }], guard := some (1, false) }) (v := ?_) rfl (by kernel_rfl) (by kernel_rfl) (by kernel_rfl) (fun _ _ _ h => h) (Or.inl ⟨by rfl, ?_⟩) (by assumption) ?_
  rotate_left
  · (intro W hSw; have y0 := hSw.cell hlc; go_simp; (try with_reducible rfl))
  (try simp only [Act.put, List.setIfInBounds_toArray, List.set_cons_zero, List.set_cons_succ])
  refine wpAnyH_take (i := 19) (oi := { dst := some 60, op := Op.move (Operand.tmp 0), type := 3, pos := "json_errors.go:81", after := #[{ on := 18, ground := Ground.guard }], guard := some (18, true) }) (v := ?_) rfl (by kernel_rfl) (by kernel_rfl) (by kernel_rfl) (fun _ _ _ h => h) (Or.inl ⟨by rfl, ?_⟩) (by assumption) ?_
  rotate_left
  · (intro W hSw; have y0 := hSw.cell hlc; go_simp; (try with_reducible rfl))
  (try simp only [Act.put, List.setIfInBounds_toArray, List.set_cons_zero, List.set_cons_succ])
  refine wpAnyH_take (i := 20) (oi := { dst := some 61, op := Op.load 63 (Operand.tmp 6), type := 63, pos := "json_errors.go:81", after := #[{ on := 18, ground := Ground.guard }], guard := some (18, true) }) rfl (by kernel_rfl) (by kernel_rfl) (by kernel_rfl) (fun _ _ _ h => h) (yieldsIf_load_row (by rfl) 63 _ rfl (w.heap.size) rfl 63 (jn nb) (0, 0) _ (fun W hSw => box_ext HJ.out hSw) Tryz.underlying63 rfl s63) (by assumption) ?_
  (try simp only [Act.put, List.setIfInBounds_toArray, List.set_cons_zero, List.set_cons_succ])
  refine wpAnyH_take (i := 21) (oi := { dst := some 62, op := Op.move (Operand.tmp 13), type := 32, pos := "json_errors.go:81", after := #[{ on := 18, ground := Ground.guard }], guard := some (18, true) }) (v := ?_) rfl (by kernel_rfl) (by kernel_rfl) (by kernel_rfl) (fun _ _ _ h => h) (Or.inl ⟨by rfl, ?_⟩) (by assumption) ?_
  rotate_left
  · (intro W hSw; have y0 := hSw.cell hlc; go_simp; (try with_reducible rfl))
  (try simp only [Act.put, List.setIfInBounds_toArray, List.set_cons_zero, List.set_cons_succ])
  refine wpAnyH_take (i := 22) (oi := { dst := some 63, op := Op.move (Operand.tmp 15), type := 3, pos := "json_errors.go:81", after := #[{ on := 18, ground := Ground.guard }], guard := some (18, true) }) (v := ?_) rfl (by kernel_rfl) (by kernel_rfl) (by kernel_rfl) (fun _ _ _ h => h) (Or.inl ⟨by rfl, ?_⟩) (by assumption) ?_
  rotate_left
  · (intro W hSw; have y0 := hSw.cell hlc; go_simp; (try with_reducible rfl))
  (try simp only [Act.put, List.setIfInBounds_toArray, List.set_cons_zero, List.set_cons_succ])
  refine wpAnyH_take (i := 23) (oi := { dst := some 64, op := Op.indexAddr 32 (Operand.tmp 62) (Operand.tmp 63), type := 0, pos := "json_errors.go:81", after := #[{ on := 21, ground := Ground.data }, { on := 22, ground := Ground.data }, { on := 18, ground := Ground.guard }], guard := some (18, true) }) (v := ?_) rfl (by kernel_rfl) (by kernel_rfl) (by kernel_rfl) (fun _ _ _ h => h) (Or.inl ⟨by rfl, ?_⟩) (by assumption) ?_
  rotate_left
  · (intro W hSw; have y0 := hSw.cell hlc; go_simp; (try with_reducible rfl))
  (try simp only [Act.put, List.setIfInBounds_toArray, List.set_cons_zero, List.set_cons_succ])
  refine wpAnyH_take (i := 24) (oi := { dst := some 65, op := Op.load 3 (Operand.tmp 64), type := 3, pos := "json_errors.go:81", after := #[{ on := 23, ground := Ground.data }, { on := 18, ground := Ground.guard }], guard := some (18, true) }) (v := ?_) rfl (by kernel_rfl) (by kernel_rfl) (by kernel_rfl) (fun _ _ _ h => h) (Or.inl ⟨by rfl, ?_⟩) (by assumption) ?_
  rotate_left
  · (intro W hSw; have y0 := hSw.cell hlc; go_simp; (try with_reducible rfl))
  (try simp only [Act.put, List.setIfInBounds_toArray, List.set_cons_zero, List.set_cons_succ])
  refine wpAnyH_take (i := 25) (oi := { dst := some 66, op := Op.load 25 (Operand.tmp 11), type := 25, pos := "json_errors.go:81", after := #[{ on := 18, ground := Ground.guard }], guard := some (18, true) }) rfl (by kernel_rfl) (by kernel_rfl) (by kernel_rfl) (fun _ _ _ h => h) (yieldsIf_load_row (by rfl) 25 _ rfl bp rfl 25 (jv k b n t A la c B lb d) (0, 0) _ (fun W hSw => box_ext HP.out hSw) Tryz.underlying25 rfl s25) (by assumption) ?_
  (try simp only [Act.put, List.setIfInBounds_toArray, List.set_cons_zero, List.set_cons_succ])
  refine wpAnyH_take (i := 26) (oi := { dst := some 67, op := Op.load 49 (Operand.tmp 9), type := 49, pos := "json_errors.go:81", after := #[{ on := 18, ground := Ground.guard }], guard := some (18, true) }) rfl (by kernel_rfl) (by kernel_rfl) (by kernel_rfl) (fun _ _ _ h => h) (yieldsIf_load_row (by rfl) 49 _ rfl (w.heap.size + 1 + 1) rfl 49 (je kd P lp cp A' ca N ln cn none 0 0) (0, 0) _ (fun W hSw => box_ext HR.out hSw) Tryz.underlying49 rfl s49) (by assumption) ?_
  (try simp only [Act.put, List.setIfInBounds_toArray, List.set_cons_zero, List.set_cons_succ])
  refine wpAnyH_ready (rs := [27]) (by kernel_rfl) (by simp) ?_
  refine AllReadyH.cons (o := { dst := some 68, op := Op.call { callee := Callee.value (Operand.func 42), args := #[Operand.tmp 60, Operand.tmp 61, Operand.tmp 65, Operand.tmp 66, Operand.tmp 67], argTypes := #[3, 63, 3, 25, 49] }, type := 4, pos := "json_errors.go:81", after := #[{ on := 19, ground := Ground.data }, { on := 20, ground := Ground.data }, { on := 24, ground := Ground.data }, { on := 25, ground := Ground.data }, { on := 26, ground := Ground.data }, { on := 18, ground := Ground.chain }, { on := 18, ground := Ground.guard }], guard := some (18, true) }) rfl (fun K hK => ?_) AllReadyH.nil
  go_simp
  go_at_call 42; refine (HKD.out _ (HE.out.trans hHeld)).mono ?_; rintro e w' ⟨rfl, he⟩; (try simp only []); have hX : Ext wy w' := hHeld.trans he
  refine hK.out _ _ hX (fun hHeld => ?_)
  clear hK K
  (try simp only [Act.put, List.setIfInBounds_toArray, List.set_cons_zero, List.set_cons_succ])
  refine wpAnyH_take (i := 28) (oi := { dst := some 69, op := Op.pick (Operand.tmp 59) (Operand.tmp 68) (Operand.const (Value.bool false)), type := 4, pos := "json_errors.go:81", after := #[{ on := 18, ground := Ground.data }, { on := 27, ground := Ground.data }, { on := 1, ground := Ground.guard }], guard := some (1, false) }) (v := ?_) rfl (by kernel_rfl) (by kernel_rfl) (by kernel_rfl) (fun _ _ _ h => h) (Or.inl ⟨by rfl, ?_⟩) (by assumption) ?_
  rotate_left
  · (intro W hSw; have y0 := hSw.cell hlc; go_simp; (try with_reducible rfl))
  (try simp only [Act.put, List.setIfInBounds_toArray, List.set_cons_zero, List.set_cons_succ])
  refine wpAnyH_take (i := 29) (oi := { dst := some 70, op := Op.pick (Operand.tmp 42) (Operand.const (Value.bool true)) (Operand.tmp 69), type := 4, pos := "json_errors.go:81", after := #[{ on := 1, ground := Ground.data }, { on := 28, ground := Ground.data }], guard := none }) (v := ?_) rfl (by kernel_rfl) (by kernel_rfl) (by kernel_rfl) (fun _ _ _ h => h) (Or.inl ⟨by rfl, ?_⟩) (by assumption) ?_
  rotate_left
  · (intro W hSw; have y0 := hSw.cell hlc; go_simp; (try with_reducible rfl))
  (try simp only [Act.put, List.setIfInBounds_toArray, List.set_cons_zero, List.set_cons_succ])
  refine wpAnyH_take (i := 30) (oi := { dst := some 14, op := Op.assign (Operand.tmp 70), type := 4, pos := "json_errors.go:81", after := #[{ on := 29, ground := Ground.data }, { on := 27, ground := Ground.chain }, { on := 0, ground := Ground.phase }, { on := 1, ground := Ground.phase }, { on := 2, ground := Ground.phase }, { on := 3, ground := Ground.phase }, { on := 4, ground := Ground.phase }, { on := 5, ground := Ground.phase }, { on := 6, ground := Ground.phase }, { on := 7, ground := Ground.phase }, { on := 8, ground := Ground.phase }, { on := 9, ground := Ground.phase }, { on := 10, ground := Ground.phase }, { on := 11, ground := Ground.phase }, { on := 12, ground := Ground.phase }, { on := 13, ground := Ground.phase }, { on := 14, ground := Ground.phase }, { on := 15, ground := Ground.phase }, { on := 16, ground := Ground.phase }, { on := 17, ground := Ground.phase }, { on := 18, ground := Ground.phase }, { on := 19, ground := Ground.phase }, { on := 20, ground := Ground.phase }, { on := 21, ground := Ground.phase }, { on := 22, ground := Ground.phase }, { on := 23, ground := Ground.phase }, { on := 24, ground := Ground.phase }, { on := 25, ground := Ground.phase }, { on := 26, ground := Ground.phase }, { on := 27, ground := Ground.phase }, { on := 28, ground := Ground.phase }, { on := 29, ground := Ground.phase }], guard := none }) (v := ?_) rfl (by kernel_rfl) (by kernel_rfl) (by kernel_rfl) (fun _ _ _ h => h) (Or.inl ⟨by rfl, ?_⟩) (by assumption) ?_
  rotate_left
  · (intro W hSw; have y0 := hSw.cell hlc; go_simp; (try with_reducible rfl))
  (try simp only [Act.put, List.setIfInBounds_toArray, List.set_cons_zero, List.set_cons_succ])
  refine wpAnyH_done (by kernel_rfl) ?_ _
  have HX := Sd.mk hHeld
  have HJ := Sd.mk (box_ext HJ.out hHeld)
  have HV := Sd.mk (box_ext HV.out hHeld)
  have HR := Sd.mk (box_ext HR.out hHeld)
  have HE := Sd.mk (HE.out.trans hHeld)
  clear fR hlc HP hHeld HX
  have fR := box_cell HR.out
  go_wp2_with fail
  rw [rounds_succ]
  go_wp2_with fail
  refine wp_loop_rounds 1 ?_
  rw [rounds_succ]
  go_wp2_with fail
  go_ret
  exact ⟨rfl, HE.out⟩

set_option maxHeartbeats 0 in
set_option maxRecDepth 100000 in
theorem err_top (nb sb : Nat) (k : Int) (b : Bool) (n : Int) (t : ByteArray) (A : Option Addr) (la c : Nat) (B : Option Addr) (lb d : Nat) (kd : ByteArray) (P : Option Addr) (lp cp : Nat) (A' : Option Addr) (ca : Nat) (N : Option Addr) (ln cn : Nat) (kd2 : ByteArray) (P2 : Option Addr) (lp2 cp2 : Nat) (A2 : Option Addr) (ca2 : Nat) (N2 : Option Addr) (ln2 cn2 : Nat) (g ck : Nat) (w : World) (hsb : w.heap[sb]? = some (.cells #[.slice (some ⟨nb, 0, none⟩) 1 1] 30 (0, 0)))
    (hpath : ∀ w', Ext w w' → Calls Tryz.prog 40 #[.agg (je kd P lp cp A' ca N ln cn (some ⟨g, 0, none⟩) 1 ck)] w' fun e w'' => e = .returned (.bool true) ∧ Ext w' w'')
    (htk : ∀ w', Ext w w' → Calls Tryz.prog 41 #[.int .i64 2020, .agg (jn nb), .int .i64 1, .agg (jv k b n t A la c B lb d)] w' fun e w'' => e = .returned (.bool false) ∧ Ext w' w'')
    (hkd : ∀ w', Ext w w' → Calls Tryz.prog 42 #[.int .i64 2020, .agg (jn nb), .int .i64 1, .agg (jv k b n t A la c B lb d), .agg (je kd P lp cp A' ca N ln cn (some ⟨g, 0, none⟩) 1 ck)] w' fun e w'' => e = .returned (.bool true) ∧ Ext w' w'')
    (hkid : ∀ i, i < 8 → w.cell? ⟨g, i, none⟩ = (je kd2 P2 lp2 cp2 A2 ca2 N2 ln2 cn2 none 0 0)[i]?) (hrec : ∀ w', Ext w w' → Calls Tryz.prog 21 #[.int .i64 2020, .agg (jn nb), (.func (.func 22) #[] #[.pointer (some ⟨sb, 0, none⟩)]), .agg (jv k b n t A la c B lb d), .agg (je kd2 P2 lp2 cp2 A2 ca2 N2 ln2 cn2 none 0 0)] w' fun e w'' => e = .returned (.bool true) ∧ Ext w' w'') :
    Calls Tryz.prog 21 #[.int .i64 2020, .agg (jn nb), (.func (.func 22) #[] #[.pointer (some ⟨sb, 0, none⟩)]), .agg (jv k b n t A la c B lb d), .agg (je kd P lp cp A' ca N ln cn (some ⟨g, 0, none⟩) 1 ck)] w fun e w' => e = .returned (.bool true) ∧ Ext w w' := by
  have HSB := Sd.mk hsb
  have HPA := Sd.mk hpath
  have HTK := Sd.mk htk
  have HKD := Sd.mk hkd
  clear hsb hpath htk hkd
  have HRC := Sd.mk hrec
  have k0 := hkid 0 (by decide)
  have k1 := hkid 1 (by decide)
  have k2 := hkid 2 (by decide)
  have k3 := hkid 3 (by decide)
  have k4 := hkid 4 (by decide)
  have k5 := hkid 5 (by decide)
  have k6 := hkid 6 (by decide)
  have k7 := hkid 7 (by decide)
  simp only [List.getElem?_toArray, List.getElem?_cons_zero, List.getElem?_cons_succ] at k0 k1 k2 k3 k4 k5 k6 k7
  have KS := Sd.mk (And.intro k0 (And.intro k1 (And.intro k2 (And.intro k3 (And.intro k4 (And.intro k5 (And.intro k6 k7)))))))
  clear hkid hrec k0 k1 k2 k3 k4 k5 k6 k7
  go_enter Tryz.func21, Tryz.ntmps21
  go_wp2_with (first
    | (go_at_call 39; refine (part_c _ _ _ _ _ _ _ _ _ _ _ _ _).mono ?_; rintro e wp ⟨rfl, he⟩; have HJ := Sd.mk (box_ext (box_keep (box_keep (box_alloc w _) _) _) he); have HV := Sd.mk (box_ext (box_keep (box_at (b := w.heap.size + 1) (by simp)) _) he); have HR := Sd.mk (box_ext (box_at (b := w.heap.size + 1 + 1) (by simp)) he); have HE := Sd.mk (((((Ext.refl w).alloc _).alloc _).alloc _).trans he); clear he)
    | (refine wpList_store_row rfl 25 _ _ rfl _ (jv k b n t A la c B lb d) _ rfl rfl 25 (box_alloc _ _) rfl s25 (o25 _ _ _ _ _ _ _ _ _ _) ?_; intro wz hn1 hn2; have hzz := HE.out.size; have HX : Sd (Ext wp wz) := ⟨Ext.over ((Ext.refl wp).alloc _) hn2 (Nat.le_refl _)⟩; have HP := Sd.mk hn1; have HJ := Sd.mk (box_ext HJ.out HX.out); have HV := Sd.mk (box_ext HV.out HX.out); have HR := Sd.mk (box_ext HR.out HX.out); have HE := Sd.mk (HE.out.trans HX.out); clear hn1 hn2 hzz HX; have fR := box_cell HR.out)
    | (go_at_call 40; refine (HPA.out _ HE.out).mono ?_; rintro e wy ⟨rfl, he⟩; have HP := Sd.mk (box_ext HP.out he); have HJ := Sd.mk (box_ext HJ.out he); have HV := Sd.mk (box_ext HV.out he); have HR := Sd.mk (box_ext HR.out he); have HE := Sd.mk (HE.out.trans he); clear he; have fR := box_cell HR.out)
    | (go_at_call 22; refine (closure_c _ _ _ (box_ext HSB.out HE.out)).mono ?_; rintro e wc ⟨rfl, rfl⟩)
    | fail)
  generalize hbp : wp.heap.size = bp at *
  generalize hlb : wy.heap.size = lb0 at *
  have hlc : (wy.alloc (.cells #[.int .i64 1] 3)).cell? ⟨lb0, 0, none⟩ = some (.int .i64 1) := by rw [← hlb]; exact box_cell (box_alloc wy _) 0
  have HP := Sd.mk (box_keep HP.out (.cells #[.int .i64 1] 3))
  have HJ := Sd.mk (box_keep HJ.out (.cells #[.int .i64 1] 3))
  have HV := Sd.mk (box_keep HV.out (.cells #[.int .i64 1] 3))
  have HR := Sd.mk (box_keep HR.out (.cells #[.int .i64 1] 3))
  have HE := Sd.mk (HE.out.alloc (.cells #[.int .i64 1] 3))
  clear fR hlb hbp
  generalize wy.alloc (.cells #[.int .i64 1] 3) = wy at *
  have fR := box_cell HR.out
  refine wp_loop_rounds 2 ?_
  rw [rounds_succ]
  go_wp2_with fail
  refine wp_region_held_drew (S := fun W => Ext wy W) (by kernel_rfl) ((Ext.refl _).drewN 1) (fun hHeld => ?_)
  refine wpAnyH_take (i := 0) (oi := { dst := some 41, op := Op.move (Operand.tmp 14), type := 4, pos := "json_errors.go:81", after := #[], guard := none }) (v := ?_) rfl (by kernel_rfl) (by kernel_rfl) (by kernel_rfl) (fun _ _ _ h => h) (Or.inl ⟨by rfl, ?_⟩) (by assumption) ?_
  rotate_left
  · (intro W hSw; have y0 := hSw.cell hlc; go_simp; (try with_reducible rfl))
  (try simp only [Act.put, List.setIfInBounds_toArray, List.set_cons_zero, List.set_cons_succ])
  refine wpAnyH_take (i := 1) (oi := { dst := some 42, op := Op.move (Operand.tmp 41), type := 4, pos := "json_errors.go:81", after := #[{ on := 0, ground := Ground.data }], guard := none }) (v := ?_) rfl (by kernel_rfl) (by kernel_rfl) (by kernel_rfl) (fun _ _ _ h => h) (Or.inl ⟨by rfl, ?_⟩) (by assumption) ?_
  rotate_left
  · (intro W hSw; have y0 := hSw.cell hlc; go_simp; (try with_reducible rfl))
  (try simp only [Act.put, List.setIfInBounds_toArray, List.set_cons_zero, List.set_cons_succ])
  refine wpAnyH_take (i := 2) (oi := { dst := some 43, op := Op.move (Operand.tmp 13), type := 32, pos := "json_errors.go:81", after := #[{ on := 1, ground := Ground.guard }], guard := some (1, false) }) (v := ?_) rfl (by kernel_rfl) (by kernel_rfl) (by kernel_rfl) (fun _ _ _ h => h) (Or.inl ⟨by rfl, ?_⟩) (by assumption) ?_
  rotate_left
  · (intro W hSw; have y0 := hSw.cell hlc; go_simp; (try with_reducible rfl))
  (try simp only [Act.put, List.setIfInBounds_toArray, List.set_cons_zero, List.set_cons_succ])
  refine wpAnyH_take (i := 3) (oi := { dst := some 44, op := Op.move (Operand.tmp 15), type := 3, pos := "json_errors.go:81", after := #[{ on := 1, ground := Ground.guard }], guard := some (1, false) }) (v := ?_) rfl (by kernel_rfl) (by kernel_rfl) (by kernel_rfl) (fun _ _ _ h => h) (Or.inl ⟨by rfl, ?_⟩) (by assumption) ?_
  rotate_left
  · (intro W hSw; have y0 := hSw.cell hlc; go_simp; (try with_reducible rfl))
  (try simp only [Act.put, List.setIfInBounds_toArray, List.set_cons_zero, List.set_cons_succ])
  refine wpAnyH_take (i := 4) (oi := { dst := some 45, op := Op.indexAddr 32 (Operand.tmp 43) (Operand.tmp 44), type := 0, pos := "json_errors.go:81", after := #[{ on := 2, ground := Ground.data }, { on := 3, ground := Ground.data }, { on := 1, ground := Ground.guard }], guard := some (1, false) }) (v := ?_) rfl (by kernel_rfl) (by kernel_rfl) (by kernel_rfl) (fun _ _ _ h => h) (Or.inl ⟨by rfl, ?_⟩) (by assumption) ?_
  rotate_left
  · (intro W hSw; have y0 := hSw.cell hlc; go_simp; (try with_reducible rfl))
  (try simp only [Act.put, List.setIfInBounds_toArray, List.set_cons_zero, List.set_cons_succ])
  refine wpAnyH_take (i := 5) (oi := { dst := some 46, op := Op.load 3 (Operand.tmp 45), type := 3, pos := "json_errors.go:81", after := #[{ on := 4, ground := Ground.data }, { on := 1, ground := Ground.guard }], guard := some (1, false) }) (v := ?_) rfl (by kernel_rfl) (by kernel_rfl) (by kernel_rfl) (fun _ _ _ h => h) (Or.inl ⟨by rfl, ?_⟩) (by assumption) ?_
  rotate_left
  · (intro W hSw; have y0 := hSw.cell hlc; go_simp; (try with_reducible rfl))
  (try simp only [Act.put, List.setIfInBounds_toArray, List.set_cons_zero, List.set_cons_succ])
  refine wpAnyH_take (i := 6) (oi := { dst := some 47, op := Op.binOp BinOp.gtr 3 (Operand.tmp 46) (Operand.const (Value.int IntKind.i64 0)) 3, type := 4, pos := "json_errors.go:81", after := #[{ on := 5, ground := Ground.data }, { on := 1, ground := Ground.guard }], guard := some (1, false) }) (v := ?_) rfl (by kernel_rfl) (by kernel_rfl) (by kernel_rfl) (fun _ _ _ h => h) (Or.inl ⟨by rfl, ?_⟩) (by assumption) ?_
  rotate_left
  · (intro W hSw; have y0 := hSw.cell hlc; go_simp; (try with_reducible rfl))
  (try simp only [Act.put, List.setIfInBounds_toArray, List.set_cons_zero, List.set_cons_succ])
  refine wpAnyH_take (i := 7) (oi := { dst := some 48, op := Op.move (Operand.tmp 47), type := 4, pos := "json_errors.go:81", after := #[{ on := 6, ground := Ground.data }, { on := 1, ground := Ground.chain }, { on := 1, ground := Ground.guard }], guard := some (1, false) }) (v := ?_) rfl (by kernel_rfl) (by kernel_rfl) (by kernel_rfl) (fun _ _ _ h => h) (Or.inl ⟨by rfl, ?_⟩) (by assumption) ?_
  rotate_left
  · (intro W hSw; have y0 := hSw.cell hlc; go_simp; (try with_reducible rfl))
  (try simp only [Act.put, List.setIfInBounds_toArray, List.set_cons_zero, List.set_cons_succ])
  refine wpAnyH_take (i := 8) (oi := { dst := some 49, op := Op.move (Operand.tmp 0), type := 3, pos := "json_errors.go:81", after := #[{ on := 7, ground := Ground.guard }], guard := some (7, true) }) (v := ?_) rfl (by kernel_rfl) (by kernel_rfl) (by kernel_rfl) (fun _ _ _ h => h) (Or.inl ⟨by rfl, ?_⟩) (by assumption) ?_
  rotate_left
  · (intro W hSw; have y0 := hSw.cell hlc; go_simp; (try with_reducible rfl))
  (try simp only [Act.put, List.setIfInBounds_toArray, List.set_cons_zero, List.set_cons_succ])
  refine wpAnyH_take (i := 9) (oi := { dst := some 50, op := Op.load 63 (Operand.tmp 6), type := 63, pos := "json_errors.go:81", after := #[{ on := 7, ground := Ground.guard }], guard := some (7, true) }) rfl (by kernel_rfl) (by kernel_rfl) (by kernel_rfl) (fun _ _ _ h => h) (yieldsIf_load_row (by rfl) 63 _ rfl (w.heap.size) rfl 63 (jn nb) (0, 0) _ (fun W hSw => box_ext HJ.out hSw) Tryz.underlying63 rfl s63) (by assumption) ?_
  (try simp only [Act.put, List.setIfInBounds_toArray, List.set_cons_zero, List.set_cons_succ])
  refine wpAnyH_take (i := 10) (oi := { dst := some 51, op := Op.move (Operand.tmp 13), type := 32, pos := "json_errors.go:81", after := #[{ on := 7, ground := Ground.guard }], guard := some (7, true) }) (v := ?_) rfl (by kernel_rfl) (by kernel_rfl) (by kernel_rfl) (fun _ _ _ h => h) (Or.inl ⟨by rfl, ?_⟩) (by assumption) ?_
  rotate_left
  · (intro W hSw; have y0 := hSw.cell hlc; go_simp; (try with_reducible rfl))
  (try simp only [Act.put, List.setIfInBounds_toArray, List.set_cons_zero, List.set_cons_succ])
  refine wpAnyH_take (i := 11) (oi := { dst := some 52, op := Op.move (Operand.tmp 15), type := 3, pos := "json_errors.go:81", after := #[{ on := 7, ground := Ground.guard }], guard := some (7, true) }) (v := ?_) rfl (by kernel_rfl) (by kernel_rfl) (by kernel_rfl) (fun _ _ _ h => h) (Or.inl ⟨by rfl, ?_⟩) (by assumption) ?_
  rotate_left
  · (intro W hSw; have y0 := hSw.cell hlc; go_simp; (try with_reducible rfl))
  (try simp only [Act.put, List.setIfInBounds_toArray, List.set_cons_zero, List.set_cons_succ])
  refine wpAnyH_take (i := 12) (oi := { dst := some 53, op := Op.indexAddr 32 (Operand.tmp 51) (Operand.tmp 52), type := 0, pos := "json_errors.go:81", after := #[{ on := 10, ground := Ground.data }, { on := 11, ground := Ground.data }, { on := 7, ground := Ground.guard }], guard := some (7, true) }) (v := ?_) rfl (by kernel_rfl) (by kernel_rfl) (by kernel_rfl) (fun _ _ _ h => h) (Or.inl ⟨by rfl, ?_⟩) (by assumption) ?_
  rotate_left
  · (intro W hSw; have y0 := hSw.cell hlc; go_simp; (try with_reducible rfl))
  (try simp only [Act.put, List.setIfInBounds_toArray, List.set_cons_zero, List.set_cons_succ])
  refine wpAnyH_take (i := 13) (oi := { dst := some 54, op := Op.load 3 (Operand.tmp 53), type := 3, pos := "json_errors.go:81", after := #[{ on := 12, ground := Ground.data }, { on := 7, ground := Ground.guard }], guard := some (7, true) }) (v := ?_) rfl (by kernel_rfl) (by kernel_rfl) (by kernel_rfl) (fun _ _ _ h => h) (Or.inl ⟨by rfl, ?_⟩) (by assumption) ?_
  rotate_left
  · (intro W hSw; have y0 := hSw.cell hlc; go_simp; (try with_reducible rfl))
  (try simp only [Act.put, List.setIfInBounds_toArray, List.set_cons_zero, List.set_cons_succ])
  refine wpAnyH_take (i := 14) (oi := { dst := some 55, op := Op.load 25 (Operand.tmp 11), type := 25, pos := "json_errors.go:81", after := #[{ on := 7, ground := Ground.guard }], guard := some (7, true) }) rfl (by kernel_rfl) (by kernel_rfl) (by kernel_rfl) (fun _ _ _ h => h) (yieldsIf_load_row (by rfl) 25 _ rfl bp rfl 25 (jv k b n t A la c B lb d) (0, 0) _ (fun W hSw => box_ext HP.out hSw) Tryz.underlying25 rfl s25) (by assumption) ?_
  (try simp only [Act.put, List.setIfInBounds_toArray, List.set_cons_zero, List.set_cons_succ])
  refine wpAnyH_ready (rs := [15]) (by kernel_rfl) (by simp) ?_
  refine AllReadyH.cons (o := { dst := some 56, op := Op.call { callee := Callee.value (Operand.func 41), args := #[Operand.tmp 49, Operand.tmp 50, Operand.tmp 54, Operand.tmp 55], argTypes := #[3, 63, 3, 25] }, type := 4, pos := "json_errors.go:81", after := #[{ on := 8, ground := Ground.data }, { on := 9, ground := Ground.data }, { on := 13, ground := Ground.data }, { on := 14, ground := Ground.data }, { on := 7, ground := Ground.chain }, { on := 7, ground := Ground.guard }], guard := some (7, true) }) rfl (fun K hK => ?_) AllReadyH.nil
  go_simp
  go_at_call 41; refine (HTK.out _ (HE.out.trans hHeld)).mono ?_; rintro e w' ⟨rfl, he⟩; (try simp only []); have hX : Ext wy w' := hHeld.trans he
  refine hK.out _ _ hX (fun hHeld => ?_)
  clear hK K
  (try simp only [Act.put, List.setIfInBounds_toArray, List.set_cons_zero, List.set_cons_succ])
  refine wpAnyH_take (i := 16) (oi := { dst := some 57, op := Op.unOp UnOp.not 4 (Operand.tmp 56), type := 4, pos := "json_errors.go:81", after := #[{ on := 15, ground := Ground.data }, { on := 7, ground := Ground.guard }], guard := some (7, true) }) (v := ?_) rfl (by kernel_rfl) (by kernel_rfl) (by kernel_rfl) (fun _ _ _ h => h) (Or.inl ⟨by rfl, ?_⟩) (by assumption) ?_
  rotate_left
  · (intro W hSw; have y0 := hSw.cell hlc; go_simp; (try with_reducible rfl))
  (try simp only [Act.put, List.setIfInBounds_toArray, List.set_cons_zero, List.set_cons_succ])
  refine wpAnyH_take (i := 17) (oi := { dst := some 58, op := Op.pick (Operand.tmp 48) (Operand.tmp 57) (Operand.const (Value.bool false)), type := 4, pos := "json_errors.go:81", after := #[{ on := 7, ground := Ground.data }, { on := 16, ground := Ground.data }, { on := 1, ground := Ground.guard }], guard := some (1, false) }) (v := ?_) rfl (by kernel_rfl) (by kernel_rfl) (by kernel_rfl) (fun _ _ _ h => h) (Or.inl ⟨by rfl, ?_⟩) (by assumption) ?_
  rotate_left
  · (intro W hSw; have y0 := hSw.cell hlc; go_simp; (try with_reducible rfl))
  (try simp only [Act.put, List.setIfInBounds_toArray, List.set_cons_zero, List.set_cons_succ])
  refine wpAnyH_take (i := 18) (oi := { dst := some 59, op := Op.move (Operand.tmp 58), type := 4, pos := "json_errors.go:81", after := #[{ on := 17, ground := Ground.data }, { on := 15, ground := Ground.chain }, { on := 1, ground := Ground.guard }], guard := some (1, false) }) (v := ?_) rfl (by kernel_rfl) (by kernel_rfl) (by kernel_rfl) (fun _ _ _ h => h) (Or.inl ⟨by rfl, ?_⟩) (by assumption) ?_
  rotate_left
  · (intro W hSw; have y0 := hSw.cell hlc; go_simp; (try with_reducible rfl))
  (try simp only [Act.put, List.setIfInBounds_toArray, List.set_cons_zero, List.set_cons_succ])
  refine wpAnyH_take (i := 19) (oi := { dst := some 60, op := Op.move (Operand.tmp 0), type := 3, pos := "json_errors.go:81", after := #[{ on := 18, ground := Ground.guard }], guard := some (18, true) }) (v := ?_) rfl (by kernel_rfl) (by kernel_rfl) (by kernel_rfl) (fun _ _ _ h => h) (Or.inl ⟨by rfl, ?_⟩) (by assumption) ?_
  rotate_left
  · (intro W hSw; have y0 := hSw.cell hlc; go_simp; (try with_reducible rfl))
  (try simp only [Act.put, List.setIfInBounds_toArray, List.set_cons_zero, List.set_cons_succ])
  refine wpAnyH_take (i := 20) (oi := { dst := some 61, op := Op.load 63 (Operand.tmp 6), type := 63, pos := "json_errors.go:81", after := #[{ on := 18, ground := Ground.guard }], guard := some (18, true) }) rfl (by kernel_rfl) (by kernel_rfl) (by kernel_rfl) (fun _ _ _ h => h) (yieldsIf_load_row (by rfl) 63 _ rfl (w.heap.size) rfl 63 (jn nb) (0, 0) _ (fun W hSw => box_ext HJ.out hSw) Tryz.underlying63 rfl s63) (by assumption) ?_
  (try simp only [Act.put, List.setIfInBounds_toArray, List.set_cons_zero, List.set_cons_succ])
  refine wpAnyH_take (i := 21) (oi := { dst := some 62, op := Op.move (Operand.tmp 13), type := 32, pos := "json_errors.go:81", after := #[{ on := 18, ground := Ground.guard }], guard := some (18, true) }) (v := ?_) rfl (by kernel_rfl) (by kernel_rfl) (by kernel_rfl) (fun _ _ _ h => h) (Or.inl ⟨by rfl, ?_⟩) (by assumption) ?_
  rotate_left
  · (intro W hSw; have y0 := hSw.cell hlc; go_simp; (try with_reducible rfl))
  (try simp only [Act.put, List.setIfInBounds_toArray, List.set_cons_zero, List.set_cons_succ])
  refine wpAnyH_take (i := 22) (oi := { dst := some 63, op := Op.move (Operand.tmp 15), type := 3, pos := "json_errors.go:81", after := #[{ on := 18, ground := Ground.guard }], guard := some (18, true) }) (v := ?_) rfl (by kernel_rfl) (by kernel_rfl) (by kernel_rfl) (fun _ _ _ h => h) (Or.inl ⟨by rfl, ?_⟩) (by assumption) ?_
  rotate_left
  · (intro W hSw; have y0 := hSw.cell hlc; go_simp; (try with_reducible rfl))
  (try simp only [Act.put, List.setIfInBounds_toArray, List.set_cons_zero, List.set_cons_succ])
  refine wpAnyH_take (i := 23) (oi := { dst := some 64, op := Op.indexAddr 32 (Operand.tmp 62) (Operand.tmp 63), type := 0, pos := "json_errors.go:81", after := #[{ on := 21, ground := Ground.data }, { on := 22, ground := Ground.data }, { on := 18, ground := Ground.guard }], guard := some (18, true) }) (v := ?_) rfl (by kernel_rfl) (by kernel_rfl) (by kernel_rfl) (fun _ _ _ h => h) (Or.inl ⟨by rfl, ?_⟩) (by assumption) ?_
  rotate_left
  · (intro W hSw; have y0 := hSw.cell hlc; go_simp; (try with_reducible rfl))
  (try simp only [Act.put, List.setIfInBounds_toArray, List.set_cons_zero, List.set_cons_succ])
  refine wpAnyH_take (i := 24) (oi := { dst := some 65, op := Op.load 3 (Operand.tmp 64), type := 3, pos := "json_errors.go:81", after := #[{ on := 23, ground := Ground.data }, { on := 18, ground := Ground.guard }], guard := some (18, true) }) (v := ?_) rfl (by kernel_rfl) (by kernel_rfl) (by kernel_rfl) (fun _ _ _ h => h) (Or.inl ⟨by rfl, ?_⟩) (by assumption) ?_
  rotate_left
  · (intro W hSw; have y0 := hSw.cell hlc; go_simp; (try with_reducible rfl))
  (try simp only [Act.put, List.setIfInBounds_toArray, List.set_cons_zero, List.set_cons_succ])
  refine wpAnyH_take (i := 25) (oi := { dst := some 66, op := Op.load 25 (Operand.tmp 11), type := 25, pos := "json_errors.go:81", after := #[{ on := 18, ground := Ground.guard }], guard := some (18, true) }) rfl (by kernel_rfl) (by kernel_rfl) (by kernel_rfl) (fun _ _ _ h => h) (yieldsIf_load_row (by rfl) 25 _ rfl bp rfl 25 (jv k b n t A la c B lb d) (0, 0) _ (fun W hSw => box_ext HP.out hSw) Tryz.underlying25 rfl s25) (by assumption) ?_
  (try simp only [Act.put, List.setIfInBounds_toArray, List.set_cons_zero, List.set_cons_succ])
  refine wpAnyH_take (i := 26) (oi := { dst := some 67, op := Op.load 49 (Operand.tmp 9), type := 49, pos := "json_errors.go:81", after := #[{ on := 18, ground := Ground.guard }], guard := some (18, true) }) rfl (by kernel_rfl) (by kernel_rfl) (by kernel_rfl) (fun _ _ _ h => h) (yieldsIf_load_row (by rfl) 49 _ rfl (w.heap.size + 1 + 1) rfl 49 (je kd P lp cp A' ca N ln cn (some ⟨g, 0, none⟩) 1 ck) (0, 0) _ (fun W hSw => box_ext HR.out hSw) Tryz.underlying49 rfl s49) (by assumption) ?_
  (try simp only [Act.put, List.setIfInBounds_toArray, List.set_cons_zero, List.set_cons_succ])
  refine wpAnyH_ready (rs := [27]) (by kernel_rfl) (by simp) ?_
  refine AllReadyH.cons (o := { dst := some 68, op := Op.call { callee := Callee.value (Operand.func 42), args := #[Operand.tmp 60, Operand.tmp 61, Operand.tmp 65, Operand.tmp 66, Operand.tmp 67], argTypes := #[3, 63, 3, 25, 49] }, type := 4, pos := "json_errors.go:81", after := #[{ on := 19, ground := Ground.data }, { on := 20, ground := Ground.data }, { on := 24, ground := Ground.data }, { on := 25, ground := Ground.data }, { on := 26, ground := Ground.data }, { on := 18, ground := Ground.chain }, { on := 18, ground := Ground.guard }], guard := some (18, true) }) rfl (fun K hK => ?_) AllReadyH.nil
  go_simp
  go_at_call 42; refine (HKD.out _ (HE.out.trans hHeld)).mono ?_; rintro e w' ⟨rfl, he⟩; (try simp only []); have hX : Ext wy w' := hHeld.trans he
  refine hK.out _ _ hX (fun hHeld => ?_)
  clear hK K
  (try simp only [Act.put, List.setIfInBounds_toArray, List.set_cons_zero, List.set_cons_succ])
  refine wpAnyH_take (i := 28) (oi := { dst := some 69, op := Op.pick (Operand.tmp 59) (Operand.tmp 68) (Operand.const (Value.bool false)), type := 4, pos := "json_errors.go:81", after := #[{ on := 18, ground := Ground.data }, { on := 27, ground := Ground.data }, { on := 1, ground := Ground.guard }], guard := some (1, false) }) (v := ?_) rfl (by kernel_rfl) (by kernel_rfl) (by kernel_rfl) (fun _ _ _ h => h) (Or.inl ⟨by rfl, ?_⟩) (by assumption) ?_
  rotate_left
  · (intro W hSw; have y0 := hSw.cell hlc; go_simp; (try with_reducible rfl))
  (try simp only [Act.put, List.setIfInBounds_toArray, List.set_cons_zero, List.set_cons_succ])
  refine wpAnyH_take (i := 29) (oi := { dst := some 70, op := Op.pick (Operand.tmp 42) (Operand.const (Value.bool true)) (Operand.tmp 69), type := 4, pos := "json_errors.go:81", after := #[{ on := 1, ground := Ground.data }, { on := 28, ground := Ground.data }], guard := none }) (v := ?_) rfl (by kernel_rfl) (by kernel_rfl) (by kernel_rfl) (fun _ _ _ h => h) (Or.inl ⟨by rfl, ?_⟩) (by assumption) ?_
  rotate_left
  · (intro W hSw; have y0 := hSw.cell hlc; go_simp; (try with_reducible rfl))
  (try simp only [Act.put, List.setIfInBounds_toArray, List.set_cons_zero, List.set_cons_succ])
  refine wpAnyH_take (i := 30) (oi := { dst := some 14, op := Op.assign (Operand.tmp 70), type := 4, pos := "json_errors.go:81", after := #[{ on := 29, ground := Ground.data }, { on := 27, ground := Ground.chain }, { on := 0, ground := Ground.phase }, { on := 1, ground := Ground.phase }, { on := 2, ground := Ground.phase }, { on := 3, ground := Ground.phase }, { on := 4, ground := Ground.phase }, { on := 5, ground := Ground.phase }, { on := 6, ground := Ground.phase }, { on := 7, ground := Ground.phase }, { on := 8, ground := Ground.phase }, { on := 9, ground := Ground.phase }, { on := 10, ground := Ground.phase }, { on := 11, ground := Ground.phase }, { on := 12, ground := Ground.phase }, { on := 13, ground := Ground.phase }, { on := 14, ground := Ground.phase }, { on := 15, ground := Ground.phase }, { on := 16, ground := Ground.phase }, { on := 17, ground := Ground.phase }, { on := 18, ground := Ground.phase }, { on := 19, ground := Ground.phase }, { on := 20, ground := Ground.phase }, { on := 21, ground := Ground.phase }, { on := 22, ground := Ground.phase }, { on := 23, ground := Ground.phase }, { on := 24, ground := Ground.phase }, { on := 25, ground := Ground.phase }, { on := 26, ground := Ground.phase }, { on := 27, ground := Ground.phase }, { on := 28, ground := Ground.phase }, { on := 29, ground := Ground.phase }], guard := none }) (v := ?_) rfl (by kernel_rfl) (by kernel_rfl) (by kernel_rfl) (fun _ _ _ h => h) (Or.inl ⟨by rfl, ?_⟩) (by assumption) ?_
  rotate_left
  · (intro W hSw; have y0 := hSw.cell hlc; go_simp; (try with_reducible rfl))
  (try simp only [Act.put, List.setIfInBounds_toArray, List.set_cons_zero, List.set_cons_succ])
  refine wpAnyH_done (by kernel_rfl) ?_ _
  have HX := Sd.mk hHeld
  have HJ := Sd.mk (box_ext HJ.out hHeld)
  have HV := Sd.mk (box_ext HV.out hHeld)
  have HR := Sd.mk (box_ext HR.out hHeld)
  have HE := Sd.mk (HE.out.trans hHeld)
  clear fR hlc HP hHeld HX
  have fR := box_cell HR.out
  go_wp2_with fail
  rw [rounds_succ]
  go_wp2_with fail
  refine wp_loop_rounds 2 ?_
  rw [rounds_succ]
  go_wp2_with fail
  obtain ⟨wv, hwv⟩ : ∃ x, x = w' := ⟨_, rfl⟩
  subst hwv
  obtain ⟨k0, k1, k2, k3, k4, k5, k6, k7⟩ := KS.out
  refine wp_region_held_drew (S := fun W => Ext wv W) (by kernel_rfl) ((Ext.refl _).drewN 1) (fun hHeld => ?_)
  refine wpAnyH_take (i := 0) (oi := { dst := some 78, op := Op.move (Operand.tmp 14), type := 4, pos := "json_errors.go:84", after := #[], guard := none }) (v := ?_) rfl (by kernel_rfl) (by kernel_rfl) (by kernel_rfl) (fun _ _ _ h => h) (Or.inl ⟨by rfl, ?_⟩) (by assumption) ?_
  rotate_left
  · (intro W hSw; have g9 := box_cell (box_ext HR.out hSw); have y0 := hSw.cell (HE.out.cell k0); have y1 := hSw.cell (HE.out.cell k1); have y2 := hSw.cell (HE.out.cell k2); have y3 := hSw.cell (HE.out.cell k3); have y4 := hSw.cell (HE.out.cell k4); have y5 := hSw.cell (HE.out.cell k5); have y6 := hSw.cell (HE.out.cell k6); have y7 := hSw.cell (HE.out.cell k7); go_simp; (try with_reducible rfl))
  (try simp only [Act.put, List.setIfInBounds_toArray, List.set_cons_zero, List.set_cons_succ])
  refine wpAnyH_take (i := 1) (oi := { dst := some 79, op := Op.move (Operand.tmp 78), type := 4, pos := "json_errors.go:84", after := #[{ on := 0, ground := Ground.data }], guard := none }) (v := ?_) rfl (by kernel_rfl) (by kernel_rfl) (by kernel_rfl) (fun _ _ _ h => h) (Or.inl ⟨by rfl, ?_⟩) (by assumption) ?_
  rotate_left
  · (intro W hSw; have g9 := box_cell (box_ext HR.out hSw); have y0 := hSw.cell (HE.out.cell k0); have y1 := hSw.cell (HE.out.cell k1); have y2 := hSw.cell (HE.out.cell k2); have y3 := hSw.cell (HE.out.cell k3); have y4 := hSw.cell (HE.out.cell k4); have y5 := hSw.cell (HE.out.cell k5); have y6 := hSw.cell (HE.out.cell k6); have y7 := hSw.cell (HE.out.cell k7); go_simp; (try with_reducible rfl))
  (try simp only [Act.put, List.setIfInBounds_toArray, List.set_cons_zero, List.set_cons_succ])
  refine wpAnyH_take (i := 2) (oi := { dst := some 80, op := Op.fieldAddr 49 (Operand.tmp 9) 7, type := 0, pos := "json_errors.go:84", after := #[{ on := 1, ground := Ground.guard }], guard := some (1, true) }) (v := ?_) rfl (by kernel_rfl) (by kernel_rfl) (by kernel_rfl) (fun _ _ _ h => h) (Or.inl ⟨by rfl, ?_⟩) (by assumption) ?_
  rotate_left
  · (intro W hSw; have g9 := box_cell (box_ext HR.out hSw); have y0 := hSw.cell (HE.out.cell k0); have y1 := hSw.cell (HE.out.cell k1); have y2 := hSw.cell (HE.out.cell k2); have y3 := hSw.cell (HE.out.cell k3); have y4 := hSw.cell (HE.out.cell k4); have y5 := hSw.cell (HE.out.cell k5); have y6 := hSw.cell (HE.out.cell k6); have y7 := hSw.cell (HE.out.cell k7); go_simp; (try with_reducible rfl))
  (try simp only [Act.put, List.setIfInBounds_toArray, List.set_cons_zero, List.set_cons_succ])
  refine wpAnyH_take (i := 3) (oi := { dst := some 81, op := Op.load 47 (Operand.tmp 80), type := 47, pos := "json_errors.go:84", after := #[{ on := 2, ground := Ground.data }, { on := 1, ground := Ground.guard }], guard := some (1, true) }) (v := ?_) rfl (by kernel_rfl) (by kernel_rfl) (by kernel_rfl) (fun _ _ _ h => h) (Or.inl ⟨by rfl, ?_⟩) (by assumption) ?_
  rotate_left
  · (intro W hSw; have g9 := box_cell (box_ext HR.out hSw); have y0 := hSw.cell (HE.out.cell k0); have y1 := hSw.cell (HE.out.cell k1); have y2 := hSw.cell (HE.out.cell k2); have y3 := hSw.cell (HE.out.cell k3); have y4 := hSw.cell (HE.out.cell k4); have y5 := hSw.cell (HE.out.cell k5); have y6 := hSw.cell (HE.out.cell k6); have y7 := hSw.cell (HE.out.cell k7); go_simp; (try with_reducible rfl))
  (try simp only [Act.put, List.setIfInBounds_toArray, List.set_cons_zero, List.set_cons_succ])
  refine wpAnyH_take (i := 4) (oi := { dst := some 82, op := Op.move (Operand.tmp 16), type := 3, pos := "json_errors.go:84", after := #[{ on := 1, ground := Ground.guard }], guard := some (1, true) }) (v := ?_) rfl (by kernel_rfl) (by kernel_rfl) (by kernel_rfl) (fun _ _ _ h => h) (Or.inl ⟨by rfl, ?_⟩) (by assumption) ?_
  rotate_left
  · (intro W hSw; have g9 := box_cell (box_ext HR.out hSw); have y0 := hSw.cell (HE.out.cell k0); have y1 := hSw.cell (HE.out.cell k1); have y2 := hSw.cell (HE.out.cell k2); have y3 := hSw.cell (HE.out.cell k3); have y4 := hSw.cell (HE.out.cell k4); have y5 := hSw.cell (HE.out.cell k5); have y6 := hSw.cell (HE.out.cell k6); have y7 := hSw.cell (HE.out.cell k7); go_simp; (try with_reducible rfl))
  (try simp only [Act.put, List.setIfInBounds_toArray, List.set_cons_zero, List.set_cons_succ])
  refine wpAnyH_take (i := 5) (oi := { dst := some 83, op := Op.indexAddr 47 (Operand.tmp 81) (Operand.tmp 82), type := 0, pos := "json_errors.go:84", after := #[{ on := 3, ground := Ground.data }, { on := 4, ground := Ground.data }, { on := 1, ground := Ground.guard }], guard := some (1, true) }) (v := ?_) rfl (by kernel_rfl) (by kernel_rfl) (by kernel_rfl) (fun _ _ _ h => h) (Or.inl ⟨by rfl, ?_⟩) (by assumption) ?_
  rotate_left
  · (intro W hSw; have g9 := box_cell (box_ext HR.out hSw); have y0 := hSw.cell (HE.out.cell k0); have y1 := hSw.cell (HE.out.cell k1); have y2 := hSw.cell (HE.out.cell k2); have y3 := hSw.cell (HE.out.cell k3); have y4 := hSw.cell (HE.out.cell k4); have y5 := hSw.cell (HE.out.cell k5); have y6 := hSw.cell (HE.out.cell k6); have y7 := hSw.cell (HE.out.cell k7); go_simp; (try with_reducible rfl))
  (try simp only [Act.put, List.setIfInBounds_toArray, List.set_cons_zero, List.set_cons_succ])
  refine wpAnyH_take (i := 6) (oi := { dst := some 84, op := Op.fieldAddr 49 (Operand.tmp 83) 3, type := 0, pos := "json_errors.go:84", after := #[{ on := 5, ground := Ground.data }, { on := 1, ground := Ground.guard }], guard := some (1, true) }) (v := ?_) rfl (by kernel_rfl) (by kernel_rfl) (by kernel_rfl) (fun _ _ _ h => h) (Or.inl ⟨by rfl, ?_⟩) (by assumption) ?_
  rotate_left
  · (intro W hSw; have g9 := box_cell (box_ext HR.out hSw); have y0 := hSw.cell (HE.out.cell k0); have y1 := hSw.cell (HE.out.cell k1); have y2 := hSw.cell (HE.out.cell k2); have y3 := hSw.cell (HE.out.cell k3); have y4 := hSw.cell (HE.out.cell k4); have y5 := hSw.cell (HE.out.cell k5); have y6 := hSw.cell (HE.out.cell k6); have y7 := hSw.cell (HE.out.cell k7); go_simp; (try with_reducible rfl))
  (try simp only [Act.put, List.setIfInBounds_toArray, List.set_cons_zero, List.set_cons_succ])
  refine wpAnyH_take (i := 7) (oi := { dst := some 85, op := Op.load 22 (Operand.tmp 84), type := 22, pos := "json_errors.go:84", after := #[{ on := 6, ground := Ground.data }, { on := 1, ground := Ground.guard }], guard := some (1, true) }) (v := ?_) rfl (by kernel_rfl) (by kernel_rfl) (by kernel_rfl) (fun _ _ _ h => h) (Or.inl ⟨by rfl, ?_⟩) (by assumption) ?_
  rotate_left
  · (intro W hSw; have g9 := box_cell (box_ext HR.out hSw); have y0 := hSw.cell (HE.out.cell k0); have y1 := hSw.cell (HE.out.cell k1); have y2 := hSw.cell (HE.out.cell k2); have y3 := hSw.cell (HE.out.cell k3); have y4 := hSw.cell (HE.out.cell k4); have y5 := hSw.cell (HE.out.cell k5); have y6 := hSw.cell (HE.out.cell k6); have y7 := hSw.cell (HE.out.cell k7); go_simp; (try with_reducible rfl))
  (try simp only [Act.put, List.setIfInBounds_toArray, List.set_cons_zero, List.set_cons_succ])
  refine wpAnyH_take (i := 8) (oi := { dst := some 86, op := Op.fieldAddr 49 (Operand.tmp 9) 3, type := 0, pos := "json_errors.go:84", after := #[{ on := 1, ground := Ground.guard }], guard := some (1, true) }) (v := ?_) rfl (by kernel_rfl) (by kernel_rfl) (by kernel_rfl) (fun _ _ _ h => h) (Or.inl ⟨by rfl, ?_⟩) (by assumption) ?_
  rotate_left
  · (intro W hSw; have g9 := box_cell (box_ext HR.out hSw); have y0 := hSw.cell (HE.out.cell k0); have y1 := hSw.cell (HE.out.cell k1); have y2 := hSw.cell (HE.out.cell k2); have y3 := hSw.cell (HE.out.cell k3); have y4 := hSw.cell (HE.out.cell k4); have y5 := hSw.cell (HE.out.cell k5); have y6 := hSw.cell (HE.out.cell k6); have y7 := hSw.cell (HE.out.cell k7); go_simp; (try with_reducible rfl))
  (try simp only [Act.put, List.setIfInBounds_toArray, List.set_cons_zero, List.set_cons_succ])
  refine wpAnyH_take (i := 9) (oi := { dst := some 87, op := Op.load 22 (Operand.tmp 86), type := 22, pos := "json_errors.go:84", after := #[{ on := 8, ground := Ground.data }, { on := 1, ground := Ground.guard }], guard := some (1, true) }) (v := ?_) rfl (by kernel_rfl) (by kernel_rfl) (by kernel_rfl) (fun _ _ _ h => h) (Or.inl ⟨by rfl, ?_⟩) (by assumption) ?_
  rotate_left
  · (intro W hSw; have g9 := box_cell (box_ext HR.out hSw); have y0 := hSw.cell (HE.out.cell k0); have y1 := hSw.cell (HE.out.cell k1); have y2 := hSw.cell (HE.out.cell k2); have y3 := hSw.cell (HE.out.cell k3); have y4 := hSw.cell (HE.out.cell k4); have y5 := hSw.cell (HE.out.cell k5); have y6 := hSw.cell (HE.out.cell k6); have y7 := hSw.cell (HE.out.cell k7); go_simp; (try with_reducible rfl))
  (try simp only [Act.put, List.setIfInBounds_toArray, List.set_cons_zero, List.set_cons_succ])
  refine wpAnyH_ready (rs := [10]) (by kernel_rfl) (by simp) ?_
  refine AllReadyH.cons (o := { dst := some 88, op := Op.call { callee := Callee.value (Operand.func 43), args := #[Operand.tmp 85, Operand.tmp 87], argTypes := #[22, 22] }, type := 4, pos := "json_errors.go:84", after := #[{ on := 7, ground := Ground.data }, { on := 9, ground := Ground.data }, { on := 1, ground := Ground.chain }, { on := 1, ground := Ground.guard }], guard := some (1, true) }) rfl (fun K hK => ?_) AllReadyH.nil
  go_simp
  go_at_call 43; refine (begins_c _ _ _ _ _ _).mono ?_; rintro e w' ⟨rfl, rfl⟩; (try simp only []); have hX := hHeld
  refine hK.out _ _ hX (fun hHeld => ?_)
  clear hK K
  (try simp only [Act.put, List.setIfInBounds_toArray, List.set_cons_zero, List.set_cons_succ])
  refine wpAnyH_take (i := 11) (oi := { dst := some 89, op := Op.pick (Operand.tmp 79) (Operand.tmp 88) (Operand.const (Value.bool false)), type := 4, pos := "json_errors.go:84", after := #[{ on := 1, ground := Ground.data }, { on := 10, ground := Ground.data }], guard := none }) (v := ?_) rfl (by kernel_rfl) (by kernel_rfl) (by kernel_rfl) (fun _ _ _ h => h) (Or.inl ⟨by rfl, ?_⟩) (by assumption) ?_
  rotate_left
  · (intro W hSw; have g9 := box_cell (box_ext HR.out hSw); have y0 := hSw.cell (HE.out.cell k0); have y1 := hSw.cell (HE.out.cell k1); have y2 := hSw.cell (HE.out.cell k2); have y3 := hSw.cell (HE.out.cell k3); have y4 := hSw.cell (HE.out.cell k4); have y5 := hSw.cell (HE.out.cell k5); have y6 := hSw.cell (HE.out.cell k6); have y7 := hSw.cell (HE.out.cell k7); go_simp; (try with_reducible rfl))
  (try simp only [Act.put, List.setIfInBounds_toArray, List.set_cons_zero, List.set_cons_succ])
  refine wpAnyH_take (i := 12) (oi := { dst := some 90, op := Op.move (Operand.tmp 89), type := 4, pos := "json_errors.go:84", after := #[{ on := 11, ground := Ground.data }, { on := 10, ground := Ground.chain }], guard := none }) (v := ?_) rfl (by kernel_rfl) (by kernel_rfl) (by kernel_rfl) (fun _ _ _ h => h) (Or.inl ⟨by rfl, ?_⟩) (by assumption) ?_
  rotate_left
  · (intro W hSw; have g9 := box_cell (box_ext HR.out hSw); have y0 := hSw.cell (HE.out.cell k0); have y1 := hSw.cell (HE.out.cell k1); have y2 := hSw.cell (HE.out.cell k2); have y3 := hSw.cell (HE.out.cell k3); have y4 := hSw.cell (HE.out.cell k4); have y5 := hSw.cell (HE.out.cell k5); have y6 := hSw.cell (HE.out.cell k6); have y7 := hSw.cell (HE.out.cell k7); go_simp; (try with_reducible rfl))
  (try simp only [Act.put, List.setIfInBounds_toArray, List.set_cons_zero, List.set_cons_succ])
  refine wpAnyH_take (i := 13) (oi := { dst := some 91, op := Op.move (Operand.tmp 0), type := 3, pos := "json_errors.go:84", after := #[{ on := 12, ground := Ground.guard }], guard := some (12, true) }) (v := ?_) rfl (by kernel_rfl) (by kernel_rfl) (by kernel_rfl) (fun _ _ _ h => h) (Or.inl ⟨by rfl, ?_⟩) (by assumption) ?_
  rotate_left
  · (intro W hSw; have g9 := box_cell (box_ext HR.out hSw); have y0 := hSw.cell (HE.out.cell k0); have y1 := hSw.cell (HE.out.cell k1); have y2 := hSw.cell (HE.out.cell k2); have y3 := hSw.cell (HE.out.cell k3); have y4 := hSw.cell (HE.out.cell k4); have y5 := hSw.cell (HE.out.cell k5); have y6 := hSw.cell (HE.out.cell k6); have y7 := hSw.cell (HE.out.cell k7); go_simp; (try with_reducible rfl))
  (try simp only [Act.put, List.setIfInBounds_toArray, List.set_cons_zero, List.set_cons_succ])
  refine wpAnyH_take (i := 14) (oi := { dst := some 92, op := Op.load 63 (Operand.tmp 6), type := 63, pos := "json_errors.go:84", after := #[{ on := 12, ground := Ground.guard }], guard := some (12, true) }) rfl (by kernel_rfl) (by kernel_rfl) (by kernel_rfl) (fun _ _ _ h => h) (yieldsIf_load_row (by rfl) 63 _ rfl (w.heap.size) rfl 63 (jn nb) (0, 0) _ (fun W hSw => box_ext HJ.out hSw) Tryz.underlying63 rfl s63) (by assumption) ?_
  (try simp only [Act.put, List.setIfInBounds_toArray, List.set_cons_zero, List.set_cons_succ])
  refine wpAnyH_take (i := 15) (oi := { dst := some 93, op := Op.move (Operand.tmp 2), type := 67, pos := "json_errors.go:84", after := #[{ on := 12, ground := Ground.guard }], guard := some (12, true) }) (v := ?_) rfl (by kernel_rfl) (by kernel_rfl) (by kernel_rfl) (fun _ _ _ h => h) (Or.inl ⟨by rfl, ?_⟩) (by assumption) ?_
  rotate_left
  · (intro W hSw; have g9 := box_cell (box_ext HR.out hSw); have y0 := hSw.cell (HE.out.cell k0); have y1 := hSw.cell (HE.out.cell k1); have y2 := hSw.cell (HE.out.cell k2); have y3 := hSw.cell (HE.out.cell k3); have y4 := hSw.cell (HE.out.cell k4); have y5 := hSw.cell (HE.out.cell k5); have y6 := hSw.cell (HE.out.cell k6); have y7 := hSw.cell (HE.out.cell k7); go_simp; (try with_reducible rfl))
  (try simp only [Act.put, List.setIfInBounds_toArray, List.set_cons_zero, List.set_cons_succ])
  refine wpAnyH_take (i := 16) (oi := { dst := some 94, op := Op.load 25 (Operand.tmp 8), type := 25, pos := "json_errors.go:84", after := #[{ on := 12, ground := Ground.guard }], guard := some (12, true) }) rfl (by kernel_rfl) (by kernel_rfl) (by kernel_rfl) (fun _ _ _ h => h) (yieldsIf_load_row (by rfl) 25 _ rfl (w.heap.size + 1) rfl 25 (jv k b n t A la c B lb d) (0, 0) _ (fun W hSw => box_ext HV.out hSw) Tryz.underlying25 rfl s25) (by assumption) ?_
  (try simp only [Act.put, List.setIfInBounds_toArray, List.set_cons_zero, List.set_cons_succ])
  refine wpAnyH_take (i := 17) (oi := { dst := some 95, op := Op.fieldAddr 49 (Operand.tmp 9) 7, type := 0, pos := "json_errors.go:84", after := #[{ on := 12, ground := Ground.guard }], guard := some (12, true) }) (v := ?_) rfl (by kernel_rfl) (by kernel_rfl) (by kernel_rfl) (fun _ _ _ h => h) (Or.inl ⟨by rfl, ?_⟩) (by assumption) ?_
  rotate_left
  · (intro W hSw; have g9 := box_cell (box_ext HR.out hSw); have y0 := hSw.cell (HE.out.cell k0); have y1 := hSw.cell (HE.out.cell k1); have y2 := hSw.cell (HE.out.cell k2); have y3 := hSw.cell (HE.out.cell k3); have y4 := hSw.cell (HE.out.cell k4); have y5 := hSw.cell (HE.out.cell k5); have y6 := hSw.cell (HE.out.cell k6); have y7 := hSw.cell (HE.out.cell k7); go_simp; (try with_reducible rfl))
  (try simp only [Act.put, List.setIfInBounds_toArray, List.set_cons_zero, List.set_cons_succ])
  refine wpAnyH_take (i := 18) (oi := { dst := some 96, op := Op.load 47 (Operand.tmp 95), type := 47, pos := "json_errors.go:84", after := #[{ on := 17, ground := Ground.data }, { on := 12, ground := Ground.guard }], guard := some (12, true) }) (v := ?_) rfl (by kernel_rfl) (by kernel_rfl) (by kernel_rfl) (fun _ _ _ h => h) (Or.inl ⟨by rfl, ?_⟩) (by assumption) ?_
  rotate_left
  · (intro W hSw; have g9 := box_cell (box_ext HR.out hSw); have y0 := hSw.cell (HE.out.cell k0); have y1 := hSw.cell (HE.out.cell k1); have y2 := hSw.cell (HE.out.cell k2); have y3 := hSw.cell (HE.out.cell k3); have y4 := hSw.cell (HE.out.cell k4); have y5 := hSw.cell (HE.out.cell k5); have y6 := hSw.cell (HE.out.cell k6); have y7 := hSw.cell (HE.out.cell k7); go_simp; (try with_reducible rfl))
  (try simp only [Act.put, List.setIfInBounds_toArray, List.set_cons_zero, List.set_cons_succ])
  refine wpAnyH_take (i := 19) (oi := { dst := some 97, op := Op.move (Operand.tmp 16), type := 3, pos := "json_errors.go:84", after := #[{ on := 12, ground := Ground.guard }], guard := some (12, true) }) (v := ?_) rfl (by kernel_rfl) (by kernel_rfl) (by kernel_rfl) (fun _ _ _ h => h) (Or.inl ⟨by rfl, ?_⟩) (by assumption) ?_
  rotate_left
  · (intro W hSw; have g9 := box_cell (box_ext HR.out hSw); have y0 := hSw.cell (HE.out.cell k0); have y1 := hSw.cell (HE.out.cell k1); have y2 := hSw.cell (HE.out.cell k2); have y3 := hSw.cell (HE.out.cell k3); have y4 := hSw.cell (HE.out.cell k4); have y5 := hSw.cell (HE.out.cell k5); have y6 := hSw.cell (HE.out.cell k6); have y7 := hSw.cell (HE.out.cell k7); go_simp; (try with_reducible rfl))
  (try simp only [Act.put, List.setIfInBounds_toArray, List.set_cons_zero, List.set_cons_succ])
  refine wpAnyH_take (i := 20) (oi := { dst := some 98, op := Op.indexAddr 47 (Operand.tmp 96) (Operand.tmp 97), type := 0, pos := "json_errors.go:84", after := #[{ on := 18, ground := Ground.data }, { on := 19, ground := Ground.data }, { on := 12, ground := Ground.guard }], guard := some (12, true) }) (v := ?_) rfl (by kernel_rfl) (by kernel_rfl) (by kernel_rfl) (fun _ _ _ h => h) (Or.inl ⟨by rfl, ?_⟩) (by assumption) ?_
  rotate_left
  · (intro W hSw; have g9 := box_cell (box_ext HR.out hSw); have y0 := hSw.cell (HE.out.cell k0); have y1 := hSw.cell (HE.out.cell k1); have y2 := hSw.cell (HE.out.cell k2); have y3 := hSw.cell (HE.out.cell k3); have y4 := hSw.cell (HE.out.cell k4); have y5 := hSw.cell (HE.out.cell k5); have y6 := hSw.cell (HE.out.cell k6); have y7 := hSw.cell (HE.out.cell k7); go_simp; (try with_reducible rfl))
  (try simp only [Act.put, List.setIfInBounds_toArray, List.set_cons_zero, List.set_cons_succ])
  refine wpAnyH_take (i := 21) (oi := { dst := some 99, op := Op.load 49 (Operand.tmp 98), type := 49, pos := "json_errors.go:84", after := #[{ on := 20, ground := Ground.data }, { on := 12, ground := Ground.guard }], guard := some (12, true) }) (v := ?_) rfl (by kernel_rfl) (by kernel_rfl) (by kernel_rfl) (fun _ _ _ h => h) (Or.inl ⟨by rfl, ?_⟩) (by assumption) ?_
  rotate_left
  · (intro W hSw; have g9 := box_cell (box_ext HR.out hSw); have y0 := hSw.cell (HE.out.cell k0); have y1 := hSw.cell (HE.out.cell k1); have y2 := hSw.cell (HE.out.cell k2); have y3 := hSw.cell (HE.out.cell k3); have y4 := hSw.cell (HE.out.cell k4); have y5 := hSw.cell (HE.out.cell k5); have y6 := hSw.cell (HE.out.cell k6); have y7 := hSw.cell (HE.out.cell k7); go_simp; (try with_reducible rfl))
  (try simp only [Act.put, List.setIfInBounds_toArray, List.set_cons_zero, List.set_cons_succ])
  refine wpAnyH_ready (rs := [22]) (by kernel_rfl) (by simp) ?_
  refine AllReadyH.cons (o := { dst := some 100, op := Op.call { callee := Callee.value (Operand.func 21), args := #[Operand.tmp 91, Operand.tmp 92, Operand.tmp 93, Operand.tmp 94, Operand.tmp 99], argTypes := #[3, 63, 67, 25, 49] }, type := 4, pos := "json_errors.go:84", after := #[{ on := 13, ground := Ground.data }, { on := 14, ground := Ground.data }, { on := 15, ground := Ground.data }, { on := 16, ground := Ground.data }, { on := 21, ground := Ground.data }, { on := 12, ground := Ground.chain }, { on := 12, ground := Ground.guard }], guard := some (12, true) }) rfl (fun K hK => ?_) AllReadyH.nil
  go_simp
  go_at_call 21; refine (HRC.out _ (HE.out.trans hHeld)).mono ?_; rintro e w' ⟨rfl, he⟩; (try simp only []); have hX : Ext wv w' := hHeld.trans he
  refine hK.out _ _ hX (fun hHeld => ?_)
  clear hK K
  (try simp only [Act.put, List.setIfInBounds_toArray, List.set_cons_zero, List.set_cons_succ])
  refine wpAnyH_take (i := 23) (oi := { dst := some 101, op := Op.pick (Operand.tmp 90) (Operand.tmp 100) (Operand.const (Value.bool false)), type := 4, pos := "json_errors.go:84", after := #[{ on := 12, ground := Ground.data }, { on := 22, ground := Ground.data }], guard := none }) (v := ?_) rfl (by kernel_rfl) (by kernel_rfl) (by kernel_rfl) (fun _ _ _ h => h) (Or.inl ⟨by rfl, ?_⟩) (by assumption) ?_
  rotate_left
  · (intro W hSw; have g9 := box_cell (box_ext HR.out hSw); have y0 := hSw.cell (HE.out.cell k0); have y1 := hSw.cell (HE.out.cell k1); have y2 := hSw.cell (HE.out.cell k2); have y3 := hSw.cell (HE.out.cell k3); have y4 := hSw.cell (HE.out.cell k4); have y5 := hSw.cell (HE.out.cell k5); have y6 := hSw.cell (HE.out.cell k6); have y7 := hSw.cell (HE.out.cell k7); go_simp; (try with_reducible rfl))
  (try simp only [Act.put, List.setIfInBounds_toArray, List.set_cons_zero, List.set_cons_succ])
  refine wpAnyH_take (i := 24) (oi := { dst := some 14, op := Op.assign (Operand.tmp 101), type := 4, pos := "json_errors.go:84", after := #[{ on := 23, ground := Ground.data }, { on := 22, ground := Ground.chain }, { on := 0, ground := Ground.phase }, { on := 1, ground := Ground.phase }, { on := 2, ground := Ground.phase }, { on := 3, ground := Ground.phase }, { on := 4, ground := Ground.phase }, { on := 5, ground := Ground.phase }, { on := 6, ground := Ground.phase }, { on := 7, ground := Ground.phase }, { on := 8, ground := Ground.phase }, { on := 9, ground := Ground.phase }, { on := 10, ground := Ground.phase }, { on := 11, ground := Ground.phase }, { on := 12, ground := Ground.phase }, { on := 13, ground := Ground.phase }, { on := 14, ground := Ground.phase }, { on := 15, ground := Ground.phase }, { on := 16, ground := Ground.phase }, { on := 17, ground := Ground.phase }, { on := 18, ground := Ground.phase }, { on := 19, ground := Ground.phase }, { on := 20, ground := Ground.phase }, { on := 21, ground := Ground.phase }, { on := 22, ground := Ground.phase }, { on := 23, ground := Ground.phase }], guard := none }) (v := ?_) rfl (by kernel_rfl) (by kernel_rfl) (by kernel_rfl) (fun _ _ _ h => h) (Or.inl ⟨by rfl, ?_⟩) (by assumption) ?_
  rotate_left
  · (intro W hSw; have g9 := box_cell (box_ext HR.out hSw); have y0 := hSw.cell (HE.out.cell k0); have y1 := hSw.cell (HE.out.cell k1); have y2 := hSw.cell (HE.out.cell k2); have y3 := hSw.cell (HE.out.cell k3); have y4 := hSw.cell (HE.out.cell k4); have y5 := hSw.cell (HE.out.cell k5); have y6 := hSw.cell (HE.out.cell k6); have y7 := hSw.cell (HE.out.cell k7); go_simp; (try with_reducible rfl))
  (try simp only [Act.put, List.setIfInBounds_toArray, List.set_cons_zero, List.set_cons_succ])
  refine wpAnyH_done (by kernel_rfl) ?_ _
  have HX := Sd.mk hHeld
  have HR := Sd.mk (box_ext HR.out hHeld)
  clear fR hHeld k0 k1 k2 k3 k4 k5 k6 k7
  have fR := box_cell HR.out
  go_wp2_with fail
  rw [rounds_succ]
  go_wp2_with fail
  go_ret
  exact ⟨rfl, HE.out.trans HX.out⟩

end Go.Proofs.YtgkjdgolffnagaaGreatDoor
