/- Parts of the proof of the statement that this folder hands in: lemmas and contracts (Kk). -/
import Derived.Test.YtgkjdgolffnagaaGreatDoorKj
import Derived.Test.YtgkjdgolffnagaaGreatDoorKhMg
import Derived.Test.YtgkjdgolffnagaaGreatDoorKh2
set_option linter.unusedSimpArgs false
set_option linter.unusedVariables false
namespace Go.Proofs.YtgkjdgolffnagaaGreatDoor
open Go.RowKit

theorem info4 : (Tryz.prog.info? 4).map (fun i => (i.zero, i.size, i.bytes)) = some (some (.bool false), 1, 1) := by kernel_rfl
theorem make_bools (n : Nat) (hn : n ≤ 1048576) : ∀ w : World, (Instr.makeSlice 58 (.int .i64 n) (.int .i64 n)).run Tryz.prog w = .ok (.slice (some ⟨w.heap.size, 0, none⟩) n n) (w.alloc (.cells (madeCells #[.bool false] n) 4)) := by
  obtain ⟨i0, hi, hz0, hz1, hz2⟩ := info_parts info4
  intro w
  have := run_make (P := Tryz.prog) w 58 4 i0 _ Tryz.underlying58 hi hz0 .i64 .i64 n n (by omega) (by omega) (by rw [hz2]; omega) (by omega)
  simpa [hz1, Value.cells] using this
theorem made_get (n i : Nat) (h : i < n) : (madeCells #[.bool false] n)[i]? = some (Value.bool false) := by
  have := toList_madeCells_one (.bool false) n
  rw [← Array.getElem?_toList, this]
  simp [h]
theorem grown_keep {w w' : World} {p b : Nat} {o : Obj} (g : w.grownBy w' (some p)) (h : w.heap[b]? = some o) (hne : b ≠ p) : w'.heap[b]? = some o := by
  rw [g.block b (Array.getElem?_eq_some_iff.1 h).1 (by simpa using hne)]; exact h

set_option maxHeartbeats 0 in
set_option maxRecDepth 100000 in
theorem judge_plain (nb : Nat) (k : Int) (b : Bool) (n : Int) (t : ByteArray) (ns : List ByteArray) (is : List JV) (h2 : k ≠ 2) (h3 : k ≠ 3) (h4 : k ≠ 4) (h5 : k ≠ 5) (A : Option Addr) (c : Nat) (B : Option Addr) (d : Nat) (w : World)
    (hl : is.length ≤ 1048576) (ht : t.size ≤ 1048576) (hS : Strs w A ns) (h : JV.All w B 0 is) (hb : w.heap[nb]? = some (.cells (node 0 true) 44 (0, 0))) :
    Calls Tryz.prog 19 #[.int .i64 2020, .agg (jn nb), .int .i64 1, .agg (jv k b n t A ns.length c B is.length d)] w fun e w' => (∃ m, e = .returned (.tuple #[.bool true, m])) ∧ Ext w w' := by
  have H := Sd.mk h
  have HS := Sd.mk hS
  have HB := Sd.mk hb
  have HT := Sd.mk ht
  clear h hS hb ht
  have hmk := make_bools is.length hl
  go_enter Tryz.func19, Tryz.ntmps19
  go_upto_region 3 with (first
    | (refine wpList_load_row rfl 44 _ rfl nb rfl 44 (node 0 true) (0, 0) _ (box_keep (box_keep HB.out _) _) Tryz.underlying44 rfl s44 ?_)
    | (refine wpList_store_row rfl 44 _ _ rfl _ (node 0 true) (node 0 false) rfl rfl 44 (box_at (by simp)) rfl s44 (o44 0 true) ?_; intro wn hn1 hn2; have HJ := Sd.mk (grown_keep hn2 (box_keep (box_keep (box_alloc w _) _) _) (by omega)); have HV := Sd.mk (grown_keep hn2 (box_keep (box_at (b := w.heap.size + 1) (by simp)) _) (by omega)); have HN := Sd.mk (show wn.heap[w.heap.size + 1 + 1]? = _ from hn1); have HE : Sd (Ext w wn) := ⟨Ext.over ((((Ext.refl w).alloc _).alloc _).alloc _) hn2 (by omega)⟩; have f8 := box_cell HV.out; clear hn1 hn2)
    | fail)
  have HM := Sd.mk (box_alloc wn (.cells (madeCells #[.bool false] is.length) 4))
  have HJ := Sd.mk (box_keep HJ.out (.cells (madeCells #[.bool false] is.length) 4))
  have HV := Sd.mk (box_keep HV.out (.cells (madeCells #[.bool false] is.length) 4))
  have HN := Sd.mk (box_keep HN.out (.cells (madeCells #[.bool false] is.length) 4))
  have HE := Sd.mk (HE.out.alloc (.cells (madeCells #[.bool false] is.length) 4))
  clear f8
  generalize wn.alloc (.cells (madeCells #[.bool false] is.length) 4) = wr at *
  have f6 := box_cell HJ.out
  have f7 := box_cell HN.out
  have f8 := box_cell HV.out
  have HX := Sd.mk (Ext.refl wr)
  unfold node at f7
  have e2 : (k == 2) = false := by simpa using h2
  have e3 : (k == 3) = false := by simpa using h3
  have e4 : (k == 4) = false := by simpa using h4
  have e5 : (k == 5) = false := by simpa using h5
  go_wp2_with (first
    | (refine wpList_load_row_g (by rfl) 44 _ rfl (w.heap.size + 1 + 1) rfl 44 (node 0 true) (0, 0) _ (box_ext HN.out HX.out) Tryz.underlying44 rfl s44 ?_)
    | (go_at_call 30; refine (values_c _ _ _ _ _ _ _ _ _ _ _ _).mono ?_; rintro e w' ⟨rfl, he⟩; have HX := Sd.mk (HX.out.trans he); clear he; have f6 := box_cell (box_ext HJ.out HX.out); have f7 := box_cell (box_ext HN.out HX.out); have f8 := box_cell (box_ext HV.out HX.out); unfold node at f7)
    | (go_at_call 31; refine (inplace_c _ _ _ _ _ _ _ _ _ _ _ _ _ _).mono ?_; rintro e w' ⟨rfl, he⟩; have HX := Sd.mk (HX.out.trans he); clear he; have f6 := box_cell (box_ext HJ.out HX.out); have f7 := box_cell (box_ext HN.out HX.out); have f8 := box_cell (box_ext HV.out HX.out); unfold node at f7)
    | fail)
  go_ret2
  exact ⟨⟨_, rfl⟩, HE.out.trans HX.out⟩

set_option maxHeartbeats 0 in
set_option maxRecDepth 100000 in
theorem judge_text (nb : Nat) (b : Bool) (n : Int) (t : ByteArray) (ns : List ByteArray) (is : List JV)  (A : Option Addr) (c : Nat) (B : Option Addr) (d : Nat) (w : World)
    (hl : is.length ≤ 1048576) (ht : t.size ≤ 1048576) (hS : Strs w A ns) (h : JV.All w B 0 is) (hb : w.heap[nb]? = some (.cells (node 0 true) 44 (0, 0))) :
    Calls Tryz.prog 19 #[.int .i64 2020, .agg (jn nb), .int .i64 1, .agg (jv 3 b n t A ns.length c B is.length d)] w fun e w' => (∃ m, e = .returned (.tuple #[.bool true, m])) ∧ Ext w w' := by
  have H := Sd.mk h
  have HS := Sd.mk hS
  have HB := Sd.mk hb
  have HT := Sd.mk ht
  clear h hS hb ht
  have hmk := make_bools is.length hl
  go_enter Tryz.func19, Tryz.ntmps19
  go_upto_region 3 with (first
    | (refine wpList_load_row rfl 44 _ rfl nb rfl 44 (node 0 true) (0, 0) _ (box_keep (box_keep HB.out _) _) Tryz.underlying44 rfl s44 ?_)
    | (refine wpList_store_row rfl 44 _ _ rfl _ (node 0 true) (node 0 false) rfl rfl 44 (box_at (by simp)) rfl s44 (o44 0 true) ?_; intro wn hn1 hn2; have HJ := Sd.mk (grown_keep hn2 (box_keep (box_keep (box_alloc w _) _) _) (by omega)); have HV := Sd.mk (grown_keep hn2 (box_keep (box_at (b := w.heap.size + 1) (by simp)) _) (by omega)); have HN := Sd.mk (show wn.heap[w.heap.size + 1 + 1]? = _ from hn1); have HE : Sd (Ext w wn) := ⟨Ext.over ((((Ext.refl w).alloc _).alloc _).alloc _) hn2 (by omega)⟩; have f8 := box_cell HV.out; clear hn1 hn2)
    | fail)
  have HM := Sd.mk (box_alloc wn (.cells (madeCells #[.bool false] is.length) 4))
  have HJ := Sd.mk (box_keep HJ.out (.cells (madeCells #[.bool false] is.length) 4))
  have HV := Sd.mk (box_keep HV.out (.cells (madeCells #[.bool false] is.length) 4))
  have HN := Sd.mk (box_keep HN.out (.cells (madeCells #[.bool false] is.length) 4))
  have HE := Sd.mk (HE.out.alloc (.cells (madeCells #[.bool false] is.length) 4))
  clear f8
  generalize wn.alloc (.cells (madeCells #[.bool false] is.length) 4) = wr at *
  have f6 := box_cell HJ.out
  have f7 := box_cell HN.out
  have f8 := box_cell HV.out
  have HX := Sd.mk (Ext.refl wr)
  unfold node at f7
  go_wp2_with (first
    | (refine wpList_load_row_g (by rfl) 44 _ rfl (w.heap.size + 1 + 1) rfl 44 (node 0 true) (0, 0) _ (box_ext HN.out HX.out) Tryz.underlying44 rfl s44 ?_)
    | (go_at_call 30; refine (values_c _ _ _ _ _ _ _ _ _ _ _ _).mono ?_; rintro e w' ⟨rfl, he⟩; have HX := Sd.mk (HX.out.trans he); clear he; have f6 := box_cell (box_ext HJ.out HX.out); have f7 := box_cell (box_ext HN.out HX.out); have f8 := box_cell (box_ext HV.out HX.out); unfold node at f7)
    | (go_at_call 31; refine (inplace_c _ _ _ _ _ _ _ _ _ _ _ _ _ _).mono ?_; rintro e w' ⟨rfl, he⟩; have HX := Sd.mk (HX.out.trans he); clear he; have f6 := box_cell (box_ext HJ.out HX.out); have f7 := box_cell (box_ext HN.out HX.out); have f8 := box_cell (box_ext HV.out HX.out); unfold node at f7)
    | fail)
  have HN := Sd.mk (box_ext HN.out HX.out)
  have HV := Sd.mk (box_ext HV.out HX.out)
  have HE := Sd.mk (HE.out.trans HX.out)
  clear f6 f7 f8 HJ HM HX
  obtain ⟨wz, hwz⟩ : ∃ x, x = w' := ⟨_, rfl⟩
  subst hwz
  refine wp_region_held_drew (S := fun W => Ext wz W) (by kernel_rfl) ((Ext.refl _).drewN 1) (fun hHeld => ?_)
  refine wpAnyH_take (i := 0) (oi := { dst := some 54, op := Op.move (Operand.tmp 12), type := 4, pos := "json_values.go:470", after := #[], guard := none }) (v := ?_) rfl (by kernel_rfl) (by kernel_rfl) (by kernel_rfl) (fun _ _ _ h => h) (Or.inl ⟨by rfl, ?_⟩) (by assumption) ?_
  rotate_left
  · (intro W hSw; have g7 := box_cell (box_ext HN.out hSw); have g8 := box_cell (box_ext HV.out hSw); unfold node at g7; go_simp; (try with_reducible rfl))
  (try simp only [Act.put, List.setIfInBounds_toArray, List.set_cons_zero, List.set_cons_succ])
  refine wpAnyH_take (i := 1) (oi := { dst := some 55, op := Op.move (Operand.tmp 54), type := 4, pos := "json_values.go:470", after := #[{ on := 0, ground := Ground.data }], guard := none }) (v := ?_) rfl (by kernel_rfl) (by kernel_rfl) (by kernel_rfl) (fun _ _ _ h => h) (Or.inl ⟨by rfl, ?_⟩) (by assumption) ?_
  rotate_left
  · (intro W hSw; have g7 := box_cell (box_ext HN.out hSw); have g8 := box_cell (box_ext HV.out hSw); unfold node at g7; go_simp; (try with_reducible rfl))
  (try simp only [Act.put, List.setIfInBounds_toArray, List.set_cons_zero, List.set_cons_succ])
  refine wpAnyH_take (i := 2) (oi := { dst := some 56, op := Op.fieldAddr 25 (Operand.tmp 7) 3, type := 0, pos := "json_values.go:470", after := #[{ on := 1, ground := Ground.guard }], guard := some (1, true) }) (v := ?_) rfl (by kernel_rfl) (by kernel_rfl) (by kernel_rfl) (fun _ _ _ h => h) (Or.inl ⟨by rfl, ?_⟩) (by assumption) ?_
  rotate_left
  · (intro W hSw; have g7 := box_cell (box_ext HN.out hSw); have g8 := box_cell (box_ext HV.out hSw); unfold node at g7; go_simp; (try with_reducible rfl))
  (try simp only [Act.put, List.setIfInBounds_toArray, List.set_cons_zero, List.set_cons_succ])
  refine wpAnyH_take (i := 3) (oi := { dst := some 57, op := Op.load 9 (Operand.tmp 56), type := 9, pos := "json_values.go:470", after := #[{ on := 2, ground := Ground.data }, { on := 1, ground := Ground.guard }], guard := some (1, true) }) (v := ?_) rfl (by kernel_rfl) (by kernel_rfl) (by kernel_rfl) (fun _ _ _ h => h) (Or.inl ⟨by rfl, ?_⟩) (by assumption) ?_
  rotate_left
  · (intro W hSw; have g7 := box_cell (box_ext HN.out hSw); have g8 := box_cell (box_ext HV.out hSw); unfold node at g7; go_simp; (try with_reducible rfl))
  (try simp only [Act.put, List.setIfInBounds_toArray, List.set_cons_zero, List.set_cons_succ])
  refine wpAnyH_take (i := 5) (oi := { dst := some 59, op := Op.fieldAddr 44 (Operand.tmp 10) 13, type := 0, pos := "json_values.go:470", after := #[{ on := 1, ground := Ground.guard }], guard := some (1, true) }) (v := ?_) rfl (by kernel_rfl) (by kernel_rfl) (by kernel_rfl) (fun _ _ _ h => h) (Or.inl ⟨by rfl, ?_⟩) (by assumption) ?_
  rotate_left
  · (intro W hSw; have g7 := box_cell (box_ext HN.out hSw); have g8 := box_cell (box_ext HV.out hSw); unfold node at g7; go_simp; (try with_reducible rfl))
  (try simp only [Act.put, List.setIfInBounds_toArray, List.set_cons_zero, List.set_cons_succ])
  refine wpAnyH_take (i := 6) (oi := { dst := some 60, op := Op.load 34 (Operand.tmp 59), type := 34, pos := "json_values.go:470", after := #[{ on := 5, ground := Ground.data }, { on := 1, ground := Ground.guard }], guard := some (1, true) }) (v := ?_) rfl (by kernel_rfl) (by kernel_rfl) (by kernel_rfl) (fun _ _ _ h => h) (Or.inl ⟨by rfl, ?_⟩) (by assumption) ?_
  rotate_left
  · (intro W hSw; have g7 := box_cell (box_ext HN.out hSw); have g8 := box_cell (box_ext HV.out hSw); unfold node at g7; go_simp; (try with_reducible rfl))
  (try simp only [Act.put, List.setIfInBounds_toArray, List.set_cons_zero, List.set_cons_succ])
  refine wpAnyH_take (i := 7) (oi := { dst := some 61, op := Op.fieldAddr 44 (Operand.tmp 10) 14, type := 0, pos := "json_values.go:470", after := #[{ on := 1, ground := Ground.guard }], guard := some (1, true) }) (v := ?_) rfl (by kernel_rfl) (by kernel_rfl) (by kernel_rfl) (fun _ _ _ h => h) (Or.inl ⟨by rfl, ?_⟩) (by assumption) ?_
  rotate_left
  · (intro W hSw; have g7 := box_cell (box_ext HN.out hSw); have g8 := box_cell (box_ext HV.out hSw); unfold node at g7; go_simp; (try with_reducible rfl))
  (try simp only [Act.put, List.setIfInBounds_toArray, List.set_cons_zero, List.set_cons_succ])
  refine wpAnyH_take (i := 8) (oi := { dst := some 62, op := Op.load 34 (Operand.tmp 61), type := 34, pos := "json_values.go:470", after := #[{ on := 7, ground := Ground.data }, { on := 1, ground := Ground.guard }], guard := some (1, true) }) (v := ?_) rfl (by kernel_rfl) (by kernel_rfl) (by kernel_rfl) (fun _ _ _ h => h) (Or.inl ⟨by rfl, ?_⟩) (by assumption) ?_
  rotate_left
  · (intro W hSw; have g7 := box_cell (box_ext HN.out hSw); have g8 := box_cell (box_ext HV.out hSw); unfold node at g7; go_simp; (try with_reducible rfl))
  (try simp only [Act.put, List.setIfInBounds_toArray, List.set_cons_zero, List.set_cons_succ])
  refine wpAnyH_ready (rs := [4]) (by kernel_rfl) (by simp) ?_
  refine AllReadyH.cons (o := { dst := some 58, op := Op.call { callee := Callee.value (Operand.func 35), args := #[Operand.tmp 57], argTypes := #[9] }, type := 3, pos := "json_values.go:470", after := #[{ on := 3, ground := Ground.data }, { on := 1, ground := Ground.chain }, { on := 1, ground := Ground.guard }], guard := some (1, true) }) rfl (fun K hK => ?_) AllReadyH.nil
  go_simp
  go_at_call 35; refine (runes_any _ _ HT.out).mono ?_; rintro e w' ⟨⟨rn, rfl⟩, rfl⟩; (try simp only []); have hX := hHeld
  refine hK.out _ _ hX (fun hHeld => ?_)
  clear hK K
  (try simp only [Act.put, List.setIfInBounds_toArray, List.set_cons_zero, List.set_cons_succ])
  refine wpAnyH_ready (rs := [9]) (by kernel_rfl) (by simp) ?_
  refine AllReadyH.cons (o := { dst := some 63, op := Op.call { callee := Callee.value (Operand.func 34), args := #[Operand.tmp 58, Operand.tmp 60, Operand.tmp 62], argTypes := #[3, 34, 34] }, type := 4, pos := "json_values.go:470", after := #[{ on := 4, ground := Ground.data }, { on := 6, ground := Ground.data }, { on := 8, ground := Ground.data }, { on := 4, ground := Ground.chain }, { on := 1, ground := Ground.guard }], guard := some (1, true) }) rfl (fun K hK => ?_) AllReadyH.nil
  go_simp
  go_at_call 34; refine (bounded_c _ _ _ _).mono ?_; rintro e w' ⟨rfl, he⟩; (try simp only []); have hX : Ext wz w' := hHeld.trans he
  refine hK.out _ _ hX (fun hHeld => ?_)
  clear hK K
  (try simp only [Act.put, List.setIfInBounds_toArray, List.set_cons_zero, List.set_cons_succ])
  refine wpAnyH_take (i := 10) (oi := { dst := some 64, op := Op.pick (Operand.tmp 55) (Operand.tmp 63) (Operand.const (Value.bool false)), type := 4, pos := "json_values.go:470", after := #[{ on := 1, ground := Ground.data }, { on := 9, ground := Ground.data }], guard := none }) (v := ?_) rfl (by kernel_rfl) (by kernel_rfl) (by kernel_rfl) (fun _ _ _ h => h) (Or.inl ⟨by rfl, ?_⟩) (by assumption) ?_
  rotate_left
  · (intro W hSw; have g7 := box_cell (box_ext HN.out hSw); have g8 := box_cell (box_ext HV.out hSw); unfold node at g7; go_simp; (try with_reducible rfl))
  (try simp only [Act.put, List.setIfInBounds_toArray, List.set_cons_zero, List.set_cons_succ])
  refine wpAnyH_take (i := 11) (oi := { dst := some 65, op := Op.move (Operand.tmp 64), type := 4, pos := "json_values.go:470", after := #[{ on := 10, ground := Ground.data }, { on := 9, ground := Ground.chain }], guard := none }) (v := ?_) rfl (by kernel_rfl) (by kernel_rfl) (by kernel_rfl) (fun _ _ _ h => h) (Or.inl ⟨by rfl, ?_⟩) (by assumption) ?_
  rotate_left
  · (intro W hSw; have g7 := box_cell (box_ext HN.out hSw); have g8 := box_cell (box_ext HV.out hSw); unfold node at g7; go_simp; (try with_reducible rfl))
  (try simp only [Act.put, List.setIfInBounds_toArray, List.set_cons_zero, List.set_cons_succ])
  refine wpAnyH_take (i := 12) (oi := { dst := some 66, op := Op.fieldAddr 25 (Operand.tmp 7) 3, type := 0, pos := "json_values.go:470", after := #[{ on := 11, ground := Ground.guard }], guard := some (11, true) }) (v := ?_) rfl (by kernel_rfl) (by kernel_rfl) (by kernel_rfl) (fun _ _ _ h => h) (Or.inl ⟨by rfl, ?_⟩) (by assumption) ?_
  rotate_left
  · (intro W hSw; have g7 := box_cell (box_ext HN.out hSw); have g8 := box_cell (box_ext HV.out hSw); unfold node at g7; go_simp; (try with_reducible rfl))
  (try simp only [Act.put, List.setIfInBounds_toArray, List.set_cons_zero, List.set_cons_succ])
  refine wpAnyH_take (i := 13) (oi := { dst := some 67, op := Op.load 9 (Operand.tmp 66), type := 9, pos := "json_values.go:470", after := #[{ on := 12, ground := Ground.data }, { on := 11, ground := Ground.guard }], guard := some (11, true) }) (v := ?_) rfl (by kernel_rfl) (by kernel_rfl) (by kernel_rfl) (fun _ _ _ h => h) (Or.inl ⟨by rfl, ?_⟩) (by assumption) ?_
  rotate_left
  · (intro W hSw; have g7 := box_cell (box_ext HN.out hSw); have g8 := box_cell (box_ext HV.out hSw); unfold node at g7; go_simp; (try with_reducible rfl))
  (try simp only [Act.put, List.setIfInBounds_toArray, List.set_cons_zero, List.set_cons_succ])
  refine wpAnyH_take (i := 14) (oi := { dst := some 68, op := Op.fieldAddr 44 (Operand.tmp 10) 15, type := 0, pos := "json_values.go:470", after := #[{ on := 11, ground := Ground.guard }], guard := some (11, true) }) (v := ?_) rfl (by kernel_rfl) (by kernel_rfl) (by kernel_rfl) (fun _ _ _ h => h) (Or.inl ⟨by rfl, ?_⟩) (by assumption) ?_
  rotate_left
  · (intro W hSw; have g7 := box_cell (box_ext HN.out hSw); have g8 := box_cell (box_ext HV.out hSw); unfold node at g7; go_simp; (try with_reducible rfl))
  (try simp only [Act.put, List.setIfInBounds_toArray, List.set_cons_zero, List.set_cons_succ])
  refine wpAnyH_take (i := 15) (oi := { dst := some 69, op := Op.load 36 (Operand.tmp 68), type := 36, pos := "json_values.go:470", after := #[{ on := 14, ground := Ground.data }, { on := 11, ground := Ground.guard }], guard := some (11, true) }) (v := ?_) rfl (by kernel_rfl) (by kernel_rfl) (by kernel_rfl) (fun _ _ _ h => h) (Or.inl ⟨by rfl, ?_⟩) (by assumption) ?_
  rotate_left
  · (intro W hSw; have g7 := box_cell (box_ext HN.out hSw); have g8 := box_cell (box_ext HV.out hSw); unfold node at g7; go_simp; (try with_reducible rfl))
  (try simp only [Act.put, List.setIfInBounds_toArray, List.set_cons_zero, List.set_cons_succ])
  refine wpAnyH_ready (rs := [16]) (by kernel_rfl) (by simp) ?_
  refine AllReadyH.cons (o := { dst := some 70, op := Op.call { callee := Callee.value (Operand.func 36), args := #[Operand.tmp 67, Operand.tmp 69], argTypes := #[9, 36] }, type := 4, pos := "json_values.go:470", after := #[{ on := 13, ground := Ground.data }, { on := 15, ground := Ground.data }, { on := 11, ground := Ground.chain }, { on := 11, ground := Ground.guard }], guard := some (11, true) }) rfl (fun K hK => ?_) AllReadyH.nil
  go_simp
  go_at_call 36; refine (taken_c _ _).mono ?_; rintro e w' ⟨rfl, he⟩; (try simp only []); have hX : Ext wz w' := hHeld.trans he
  refine hK.out _ _ hX (fun hHeld => ?_)
  clear hK K
  (try simp only [Act.put, List.setIfInBounds_toArray, List.set_cons_zero, List.set_cons_succ])
  refine wpAnyH_take (i := 17) (oi := { dst := some 71, op := Op.pick (Operand.tmp 65) (Operand.tmp 70) (Operand.const (Value.bool false)), type := 4, pos := "json_values.go:470", after := #[{ on := 11, ground := Ground.data }, { on := 16, ground := Ground.data }], guard := none }) (v := ?_) rfl (by kernel_rfl) (by kernel_rfl) (by kernel_rfl) (fun _ _ _ h => h) (Or.inl ⟨by rfl, ?_⟩) (by assumption) ?_
  rotate_left
  · (intro W hSw; have g7 := box_cell (box_ext HN.out hSw); have g8 := box_cell (box_ext HV.out hSw); unfold node at g7; go_simp; (try with_reducible rfl))
  (try simp only [Act.put, List.setIfInBounds_toArray, List.set_cons_zero, List.set_cons_succ])
  refine wpAnyH_take (i := 18) (oi := { dst := some 72, op := Op.move (Operand.tmp 71), type := 4, pos := "json_values.go:470", after := #[{ on := 17, ground := Ground.data }, { on := 16, ground := Ground.chain }], guard := none }) (v := ?_) rfl (by kernel_rfl) (by kernel_rfl) (by kernel_rfl) (fun _ _ _ h => h) (Or.inl ⟨by rfl, ?_⟩) (by assumption) ?_
  rotate_left
  · (intro W hSw; have g7 := box_cell (box_ext HN.out hSw); have g8 := box_cell (box_ext HV.out hSw); unfold node at g7; go_simp; (try with_reducible rfl))
  (try simp only [Act.put, List.setIfInBounds_toArray, List.set_cons_zero, List.set_cons_succ])
  refine wpAnyH_take (i := 19) (oi := { dst := some 73, op := Op.fieldAddr 25 (Operand.tmp 7) 3, type := 0, pos := "json_values.go:470", after := #[{ on := 18, ground := Ground.guard }], guard := some (18, true) }) (v := ?_) rfl (by kernel_rfl) (by kernel_rfl) (by kernel_rfl) (fun _ _ _ h => h) (Or.inl ⟨by rfl, ?_⟩) (by assumption) ?_
  rotate_left
  · (intro W hSw; have g7 := box_cell (box_ext HN.out hSw); have g8 := box_cell (box_ext HV.out hSw); unfold node at g7; go_simp; (try with_reducible rfl))
  (try simp only [Act.put, List.setIfInBounds_toArray, List.set_cons_zero, List.set_cons_succ])
  refine wpAnyH_take (i := 20) (oi := { dst := some 74, op := Op.load 9 (Operand.tmp 73), type := 9, pos := "json_values.go:470", after := #[{ on := 19, ground := Ground.data }, { on := 18, ground := Ground.guard }], guard := some (18, true) }) (v := ?_) rfl (by kernel_rfl) (by kernel_rfl) (by kernel_rfl) (fun _ _ _ h => h) (Or.inl ⟨by rfl, ?_⟩) (by assumption) ?_
  rotate_left
  · (intro W hSw; have g7 := box_cell (box_ext HN.out hSw); have g8 := box_cell (box_ext HV.out hSw); unfold node at g7; go_simp; (try with_reducible rfl))
  (try simp only [Act.put, List.setIfInBounds_toArray, List.set_cons_zero, List.set_cons_succ])
  refine wpAnyH_take (i := 21) (oi := { dst := some 75, op := Op.fieldAddr 44 (Operand.tmp 10) 16, type := 0, pos := "json_values.go:470", after := #[{ on := 18, ground := Ground.guard }], guard := some (18, true) }) (v := ?_) rfl (by kernel_rfl) (by kernel_rfl) (by kernel_rfl) (fun _ _ _ h => h) (Or.inl ⟨by rfl, ?_⟩) (by assumption) ?_
  rotate_left
  · (intro W hSw; have g7 := box_cell (box_ext HN.out hSw); have g8 := box_cell (box_ext HV.out hSw); unfold node at g7; go_simp; (try with_reducible rfl))
  (try simp only [Act.put, List.setIfInBounds_toArray, List.set_cons_zero, List.set_cons_succ])
  refine wpAnyH_take (i := 22) (oi := { dst := some 76, op := Op.load 36 (Operand.tmp 75), type := 36, pos := "json_values.go:470", after := #[{ on := 21, ground := Ground.data }, { on := 18, ground := Ground.guard }], guard := some (18, true) }) (v := ?_) rfl (by kernel_rfl) (by kernel_rfl) (by kernel_rfl) (fun _ _ _ h => h) (Or.inl ⟨by rfl, ?_⟩) (by assumption) ?_
  rotate_left
  · (intro W hSw; have g7 := box_cell (box_ext HN.out hSw); have g8 := box_cell (box_ext HV.out hSw); unfold node at g7; go_simp; (try with_reducible rfl))
  (try simp only [Act.put, List.setIfInBounds_toArray, List.set_cons_zero, List.set_cons_succ])
  refine wpAnyH_ready (rs := [23]) (by kernel_rfl) (by simp) ?_
  refine AllReadyH.cons (o := { dst := some 77, op := Op.call { callee := Callee.value (Operand.func 36), args := #[Operand.tmp 74, Operand.tmp 76], argTypes := #[9, 36] }, type := 4, pos := "json_values.go:470", after := #[{ on := 20, ground := Ground.data }, { on := 22, ground := Ground.data }, { on := 18, ground := Ground.chain }, { on := 18, ground := Ground.guard }], guard := some (18, true) }) rfl (fun K hK => ?_) AllReadyH.nil
  go_simp
  go_at_call 36; refine (taken_c _ _).mono ?_; rintro e w' ⟨rfl, he⟩; (try simp only []); have hX : Ext wz w' := hHeld.trans he
  refine hK.out _ _ hX (fun hHeld => ?_)
  clear hK K
  (try simp only [Act.put, List.setIfInBounds_toArray, List.set_cons_zero, List.set_cons_succ])
  refine wpAnyH_take (i := 24) (oi := { dst := some 78, op := Op.pick (Operand.tmp 72) (Operand.tmp 77) (Operand.const (Value.bool false)), type := 4, pos := "json_values.go:470", after := #[{ on := 18, ground := Ground.data }, { on := 23, ground := Ground.data }], guard := none }) (v := ?_) rfl (by kernel_rfl) (by kernel_rfl) (by kernel_rfl) (fun _ _ _ h => h) (Or.inl ⟨by rfl, ?_⟩) (by assumption) ?_
  rotate_left
  · (intro W hSw; have g7 := box_cell (box_ext HN.out hSw); have g8 := box_cell (box_ext HV.out hSw); unfold node at g7; go_simp; (try with_reducible rfl))
  (try simp only [Act.put, List.setIfInBounds_toArray, List.set_cons_zero, List.set_cons_succ])
  refine wpAnyH_take (i := 25) (oi := { dst := some 12, op := Op.assign (Operand.tmp 78), type := 4, pos := "json_values.go:470", after := #[{ on := 24, ground := Ground.data }, { on := 23, ground := Ground.chain }, { on := 0, ground := Ground.phase }, { on := 1, ground := Ground.phase }, { on := 2, ground := Ground.phase }, { on := 3, ground := Ground.phase }, { on := 4, ground := Ground.phase }, { on := 5, ground := Ground.phase }, { on := 6, ground := Ground.phase }, { on := 7, ground := Ground.phase }, { on := 8, ground := Ground.phase }, { on := 9, ground := Ground.phase }, { on := 10, ground := Ground.phase }, { on := 11, ground := Ground.phase }, { on := 12, ground := Ground.phase }, { on := 13, ground := Ground.phase }, { on := 14, ground := Ground.phase }, { on := 15, ground := Ground.phase }, { on := 16, ground := Ground.phase }, { on := 17, ground := Ground.phase }, { on := 18, ground := Ground.phase }, { on := 19, ground := Ground.phase }, { on := 20, ground := Ground.phase }, { on := 21, ground := Ground.phase }, { on := 22, ground := Ground.phase }, { on := 23, ground := Ground.phase }, { on := 24, ground := Ground.phase }], guard := none }) (v := ?_) rfl (by kernel_rfl) (by kernel_rfl) (by kernel_rfl) (fun _ _ _ h => h) (Or.inl ⟨by rfl, ?_⟩) (by assumption) ?_
  rotate_left
  · (intro W hSw; have g7 := box_cell (box_ext HN.out hSw); have g8 := box_cell (box_ext HV.out hSw); unfold node at g7; go_simp; (try with_reducible rfl))
  (try simp only [Act.put, List.setIfInBounds_toArray, List.set_cons_zero, List.set_cons_succ])
  refine wpAnyH_done (by kernel_rfl) ?_ _
  have HX2 := Sd.mk hHeld
  clear hHeld
  go_wp2_with fail
  go_ret2
  exact ⟨⟨_, rfl⟩, HE.out.trans HX2.out⟩

set_option maxHeartbeats 0 in
set_option maxRecDepth 100000 in
theorem judge_list_n (nb : Nat) (b : Bool) (n : Int) (t : ByteArray) (ns : List ByteArray) (is : List JV) (hok : ∀ i (h : i < is.length), (is[i]).Ok) (hcn : ∀ i (h : i < is.length), (is[i]).counts = true) (hT : ¬ Twins is) (A : Option Addr) (c : Nat) (B : Option Addr) (d : Nat) (w : World)
    (hl : is.length ≤ 1048576) (ht : t.size ≤ 1048576) (hS : Strs w A ns) (h : JV.All w B 0 is) (hb : w.heap[nb]? = some (.cells (node 0 true) 44 (0, 0))) :
    Calls Tryz.prog 19 #[.int .i64 2020, .agg (jn nb), .int .i64 1, .agg (jv 4 b n t A ns.length c B is.length d)] w fun e w' => (∃ m, e = .returned (.tuple #[.bool true, m])) ∧ Ext w w' := by
  have H := Sd.mk h
  have HS := Sd.mk hS
  have HB := Sd.mk hb
  have HT := Sd.mk ht
  have OK := Sd.mk hok
  clear hok
  have CN := Sd.mk hcn
  clear hcn
  have HTW := Sd.mk hT
  clear hT
  clear h hS hb ht
  have hmk := make_bools is.length hl
  go_enter Tryz.func19, Tryz.ntmps19
  go_upto_region 3 with (first
    | (refine wpList_load_row rfl 44 _ rfl nb rfl 44 (node 0 true) (0, 0) _ (box_keep (box_keep HB.out _) _) Tryz.underlying44 rfl s44 ?_)
    | (refine wpList_store_row rfl 44 _ _ rfl _ (node 0 true) (node 0 false) rfl rfl 44 (box_at (by simp)) rfl s44 (o44 0 true) ?_; intro wn hn1 hn2; have HJ := Sd.mk (grown_keep hn2 (box_keep (box_keep (box_alloc w _) _) _) (by omega)); have HV := Sd.mk (grown_keep hn2 (box_keep (box_at (b := w.heap.size + 1) (by simp)) _) (by omega)); have HN := Sd.mk (show wn.heap[w.heap.size + 1 + 1]? = _ from hn1); have HE : Sd (Ext w wn) := ⟨Ext.over ((((Ext.refl w).alloc _).alloc _).alloc _) hn2 (by omega)⟩; have f8 := box_cell HV.out; clear hn1 hn2)
    | fail)
  have HM := Sd.mk (box_alloc wn (.cells (madeCells #[.bool false] is.length) 4))
  have HJ := Sd.mk (box_keep HJ.out (.cells (madeCells #[.bool false] is.length) 4))
  have HV := Sd.mk (box_keep HV.out (.cells (madeCells #[.bool false] is.length) 4))
  have HN := Sd.mk (box_keep HN.out (.cells (madeCells #[.bool false] is.length) 4))
  have HE := Sd.mk (HE.out.alloc (.cells (madeCells #[.bool false] is.length) 4))
  clear f8
  generalize wn.alloc (.cells (madeCells #[.bool false] is.length) 4) = wr at *
  have f6 := box_cell HJ.out
  have f7 := box_cell HN.out
  have f8 := box_cell HV.out
  have HX := Sd.mk (Ext.refl wr)
  unfold node at f7
  go_wp2_with (first
    | (refine wpList_load_row_g (by rfl) 44 _ rfl (w.heap.size + 1 + 1) rfl 44 (node 0 true) (0, 0) _ (box_ext HN.out HX.out) Tryz.underlying44 rfl s44 ?_)
    | (go_at_call 30; refine (values_c _ _ _ _ _ _ _ _ _ _ _ _).mono ?_; rintro e w' ⟨rfl, he⟩; have HX := Sd.mk (HX.out.trans he); clear he; have f6 := box_cell (box_ext HJ.out HX.out); have f7 := box_cell (box_ext HN.out HX.out); have f8 := box_cell (box_ext HV.out HX.out); unfold node at f7)
    | (go_at_call 31; refine (inplace_c _ _ _ _ _ _ _ _ _ _ _ _ _ _).mono ?_; rintro e w' ⟨rfl, he⟩; have HX := Sd.mk (HX.out.trans he); clear he; have f6 := box_cell (box_ext HJ.out HX.out); have f7 := box_cell (box_ext HN.out HX.out); have f8 := box_cell (box_ext HV.out HX.out); unfold node at f7)
    | (go_at_call 37; refine (jarray_n _ _ _ _ _ _ is OK.out CN.out _ _ _ _ _ hl (H.out.ext (HE.out.trans HX.out)) wn.heap.size _ _ (box_ext HM.out HX.out) (made_get is.length) HTW.out).mono ?_; rintro e w' ⟨rfl, he⟩; have HX := Sd.mk (HX.out.trans he); clear he; have f8 := box_cell (box_ext HV.out HX.out); have hmk := hmk)
    | fail)
  all_goals
    go_ret2
    exact ⟨⟨_, rfl⟩, by first | exact HE.out.trans HX.out | exact (HE.out.trans HX.out).alloc _ | exact ((HE.out.trans HX.out).drewN 1).alloc _ | exact ((HE.out.trans HX.out).alloc _).drewN 1⟩

set_option maxHeartbeats 0 in
set_option maxRecDepth 100000 in
theorem judge_list_t (nb : Nat) (b : Bool) (n : Int) (t : ByteArray) (ns : List ByteArray) (is : List JV) (hok : ∀ i (h : i < is.length), (is[i]).Ok) (hcn : ∀ i (h : i < is.length), (is[i]).counts = true) (hT : Twins is) (A : Option Addr) (c : Nat) (B : Option Addr) (d : Nat) (w : World)
    (hl : is.length ≤ 1048576) (ht : t.size ≤ 1048576) (hS : Strs w A ns) (h : JV.All w B 0 is) (hb : w.heap[nb]? = some (.cells (node 0 true) 44 (0, 0))) :
    Calls Tryz.prog 19 #[.int .i64 2020, .agg (jn nb), .int .i64 1, .agg (jv 4 b n t A ns.length c B is.length d)] w fun e w' => (∃ m, e = .returned (.tuple #[.bool false, m])) ∧ Ext w w' := by
  have H := Sd.mk h
  have HS := Sd.mk hS
  have HB := Sd.mk hb
  have HT := Sd.mk ht
  have OK := Sd.mk hok
  clear hok
  have CN := Sd.mk hcn
  clear hcn
  have HTW := Sd.mk hT
  clear hT
  clear h hS hb ht
  have hmk := make_bools is.length hl
  go_enter Tryz.func19, Tryz.ntmps19
  go_upto_region 3 with (first
    | (refine wpList_load_row rfl 44 _ rfl nb rfl 44 (node 0 true) (0, 0) _ (box_keep (box_keep HB.out _) _) Tryz.underlying44 rfl s44 ?_)
    | (refine wpList_store_row rfl 44 _ _ rfl _ (node 0 true) (node 0 false) rfl rfl 44 (box_at (by simp)) rfl s44 (o44 0 true) ?_; intro wn hn1 hn2; have HJ := Sd.mk (grown_keep hn2 (box_keep (box_keep (box_alloc w _) _) _) (by omega)); have HV := Sd.mk (grown_keep hn2 (box_keep (box_at (b := w.heap.size + 1) (by simp)) _) (by omega)); have HN := Sd.mk (show wn.heap[w.heap.size + 1 + 1]? = _ from hn1); have HE : Sd (Ext w wn) := ⟨Ext.over ((((Ext.refl w).alloc _).alloc _).alloc _) hn2 (by omega)⟩; have f8 := box_cell HV.out; clear hn1 hn2)
    | fail)
  have HM := Sd.mk (box_alloc wn (.cells (madeCells #[.bool false] is.length) 4))
  have HJ := Sd.mk (box_keep HJ.out (.cells (madeCells #[.bool false] is.length) 4))
  have HV := Sd.mk (box_keep HV.out (.cells (madeCells #[.bool false] is.length) 4))
  have HN := Sd.mk (box_keep HN.out (.cells (madeCells #[.bool false] is.length) 4))
  have HE := Sd.mk (HE.out.alloc (.cells (madeCells #[.bool false] is.length) 4))
  clear f8
  generalize wn.alloc (.cells (madeCells #[.bool false] is.length) 4) = wr at *
  have f6 := box_cell HJ.out
  have f7 := box_cell HN.out
  have f8 := box_cell HV.out
  have HX := Sd.mk (Ext.refl wr)
  unfold node at f7
  go_wp2_with (first
    | (refine wpList_load_row_g (by rfl) 44 _ rfl (w.heap.size + 1 + 1) rfl 44 (node 0 true) (0, 0) _ (box_ext HN.out HX.out) Tryz.underlying44 rfl s44 ?_)
    | (go_at_call 30; refine (values_c _ _ _ _ _ _ _ _ _ _ _ _).mono ?_; rintro e w' ⟨rfl, he⟩; have HX := Sd.mk (HX.out.trans he); clear he; have f6 := box_cell (box_ext HJ.out HX.out); have f7 := box_cell (box_ext HN.out HX.out); have f8 := box_cell (box_ext HV.out HX.out); unfold node at f7)
    | (go_at_call 31; refine (inplace_c _ _ _ _ _ _ _ _ _ _ _ _ _ _).mono ?_; rintro e w' ⟨rfl, he⟩; have HX := Sd.mk (HX.out.trans he); clear he; have f6 := box_cell (box_ext HJ.out HX.out); have f7 := box_cell (box_ext HN.out HX.out); have f8 := box_cell (box_ext HV.out HX.out); unfold node at f7)
    | (go_at_call 37; refine (jarray_t _ _ _ _ _ _ is OK.out CN.out _ _ _ _ _ hl (H.out.ext (HE.out.trans HX.out)) wn.heap.size _ _ (box_ext HM.out HX.out) (made_get is.length) HTW.out).mono ?_; rintro e w' ⟨rfl, he⟩; have HX := Sd.mk (HX.out.trans he); clear he; have f8 := box_cell (box_ext HV.out HX.out); have hmk := hmk)
    | fail)
  go_region_law (fail)
  all_goals go_wp2_with fail
  all_goals
    go_ret2
    exact ⟨⟨_, rfl⟩, by first | exact HE.out.trans HX.out | exact (HE.out.trans HX.out).alloc _ | exact ((HE.out.trans HX.out).drewN 1).alloc _ | exact ((HE.out.trans HX.out).alloc _).drewN 1⟩

set_option maxHeartbeats 0 in
set_option maxRecDepth 100000 in
theorem judge_obj (nb : Nat) (b : Bool) (n : Int) (t : ByteArray) (ns : List ByteArray) (is : List JV) (hni : ns.length = is.length) (A : Option Addr) (c : Nat) (B : Option Addr) (d : Nat) (w : World)
    (hl : is.length ≤ 1048576) (ht : t.size ≤ 1048576) (hS : Strs w A ns) (h : JV.All w B 0 is) (hb : w.heap[nb]? = some (.cells (node 0 true) 44 (0, 0))) :
    Calls Tryz.prog 19 #[.int .i64 2020, .agg (jn nb), .int .i64 1, .agg (jv 5 b n t A ns.length c B is.length d)] w fun e w' => (∃ m, e = .returned (.tuple #[.bool true, m])) ∧ Ext w w' := by
  have H := Sd.mk h
  have HS := Sd.mk hS
  have HB := Sd.mk hb
  have HT := Sd.mk ht
  have HNI := Sd.mk hni
  clear hni
  clear h hS hb ht
  have hmk := make_bools is.length hl
  go_enter Tryz.func19, Tryz.ntmps19
  go_upto_region 3 with (first
    | (refine wpList_load_row rfl 44 _ rfl nb rfl 44 (node 0 true) (0, 0) _ (box_keep (box_keep HB.out _) _) Tryz.underlying44 rfl s44 ?_)
    | (refine wpList_store_row rfl 44 _ _ rfl _ (node 0 true) (node 0 false) rfl rfl 44 (box_at (by simp)) rfl s44 (o44 0 true) ?_; intro wn hn1 hn2; have HJ := Sd.mk (grown_keep hn2 (box_keep (box_keep (box_alloc w _) _) _) (by omega)); have HV := Sd.mk (grown_keep hn2 (box_keep (box_at (b := w.heap.size + 1) (by simp)) _) (by omega)); have HN := Sd.mk (show wn.heap[w.heap.size + 1 + 1]? = _ from hn1); have HE : Sd (Ext w wn) := ⟨Ext.over ((((Ext.refl w).alloc _).alloc _).alloc _) hn2 (by omega)⟩; have f8 := box_cell HV.out; clear hn1 hn2)
    | fail)
  have HM := Sd.mk (box_alloc wn (.cells (madeCells #[.bool false] is.length) 4))
  have HJ := Sd.mk (box_keep HJ.out (.cells (madeCells #[.bool false] is.length) 4))
  have HV := Sd.mk (box_keep HV.out (.cells (madeCells #[.bool false] is.length) 4))
  have HN := Sd.mk (box_keep HN.out (.cells (madeCells #[.bool false] is.length) 4))
  have HE := Sd.mk (HE.out.alloc (.cells (madeCells #[.bool false] is.length) 4))
  clear f8
  generalize wn.alloc (.cells (madeCells #[.bool false] is.length) 4) = wr at *
  have f6 := box_cell HJ.out
  have f7 := box_cell HN.out
  have f8 := box_cell HV.out
  have HX := Sd.mk (Ext.refl wr)
  unfold node at f7
  go_wp2_with (first
    | (refine wpList_load_row_g (by rfl) 44 _ rfl (w.heap.size + 1 + 1) rfl 44 (node 0 true) (0, 0) _ (box_ext HN.out HX.out) Tryz.underlying44 rfl s44 ?_)
    | (go_at_call 30; refine (values_c _ _ _ _ _ _ _ _ _ _ _ _).mono ?_; rintro e w' ⟨rfl, he⟩; have HX := Sd.mk (HX.out.trans he); clear he; have f6 := box_cell (box_ext HJ.out HX.out); have f7 := box_cell (box_ext HN.out HX.out); have f8 := box_cell (box_ext HV.out HX.out); unfold node at f7)
    | (go_at_call 31; refine (inplace_c _ _ _ _ _ _ _ _ _ _ _ _ _ _).mono ?_; rintro e w' ⟨rfl, he⟩; have HX := Sd.mk (HX.out.trans he); clear he; have f6 := box_cell (box_ext HJ.out HX.out); have f7 := box_cell (box_ext HN.out HX.out); have f8 := box_cell (box_ext HV.out HX.out); unfold node at f7)
    | (go_at_call 38; refine (jobject_c _ _ _ _ _ _ is HNI.out _ _ _ _ _ hl (HS.out.ext (HE.out.trans HX.out)) (H.out.ext (HE.out.trans HX.out)) _).mono ?_; rintro e w' ⟨rfl, he⟩; have HX := Sd.mk (HX.out.trans he); clear he; have f8 := box_cell (box_ext HV.out HX.out))
    | fail)
  all_goals
    go_ret2
    exact ⟨⟨_, rfl⟩, by first | exact HE.out.trans HX.out | exact (HE.out.trans HX.out).alloc _ | exact ((HE.out.trans HX.out).drewN 1).alloc _ | exact ((HE.out.trans HX.out).alloc _).drewN 1⟩

end Go.Proofs.YtgkjdgolffnagaaGreatDoor
