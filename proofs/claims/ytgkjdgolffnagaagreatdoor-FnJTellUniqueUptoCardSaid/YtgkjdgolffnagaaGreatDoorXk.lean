/- Parts of the proof of the statement that this folder hands in: lemmas and contracts (Xk). -/
import Derived.Test.YtgkjdgolffnagaaGreatDoorXj
import Derived.Test.YtgkjdgolffnagaaGreatDoorE
set_option linter.unusedSimpArgs false
set_option linter.unusedVariables false
namespace Go.Proofs.YtgkjdgolffnagaaGreatDoor
open Go.RowKit

theorem yieldsIf_build {P : Program} {ops : Array Oper} {S : World → Prop} {op : Oper} {a : Act} (hw : Region.wanted op (yielded ops a.tmps) = true) (t : TypeId) (parts : Array (Nat × Operand)) (ho : op.op = .build t parts) (cells : Array Value)
    (hr : ∀ w, (Instr.build t (parts.map fun (i, x) => (i, a.eval x))).run P w = .ok (.agg cells) w) : YieldsIf P ops S op (.agg cells) a :=
  .inl ⟨hw, fun w _ => by
    unfold execOp
    simp only [ho, Sem.run_bind, hr, Result.andThen_ok, Sem.run_pure]⟩
theorem all_one {w : World} {v : JV} {cs : List Value} {b : Nat} (h : v.At w cs) (hb : w.heap[b]? = some (.cells cs.toArray 25 (0, 0))) : JV.All w (some ⟨b, 0, none⟩) 0 [v] := by
  refine ⟨⟨_, cs, rfl, h, fun j hj => ?_⟩, trivial⟩
  have ha : ((⟨b, 0, none⟩ : Addr).add (0 * 6)).add j = ⟨b, j, none⟩ := by simp [Addr.add]; omega
  rw [ha, box_cell hb j]
  simp [hj]
theorem short_of {v : JV} (h : v.Short) : v.kind = 4 → v.items.length ≤ 20 := by
  cases h with | mk _ _ _ _ _ _ h1 h2 => exact h1

set_option maxHeartbeats 4000000 in
set_option maxRecDepth 100000 in
theorem law_c (v : JV) (k : Int) (b : Bool) (n : Int) (t : ByteArray) (A0 : Option Addr) (la c : Nat) (B0 : Option Addr) (lb d : Nat) (w : World) (h : v.At w [.int .i64 k, .bool b, .int .i64 n, .string t, .slice A0 la c, .slice B0 lb d]) :
    Calls Tryz.prog 3 #[.agg (jv k b n t A0 la c B0 lb d)] w fun e w' => e = .returned (.bool true) ∧ Ext w w' := by
  have H := Sd.mk h
  clear h
  go_enter Tryz.func3, Tryz.ntmps3
  go_wp2_with (first
    | (refine wpList_load_row rfl 25 _ rfl w.heap.size rfl 25 (jv k b n t A0 la c B0 lb d) (0, 0) _ (box_alloc w _) Tryz.underlying25 rfl s25 ?_)
    | fail)
  go_at_call 4
  refine (fits5_any v _ _ (H.out.ext ((Ext.refl w).alloc _))).mono ?_
  rintro e wc ⟨⟨b0, rfl⟩, he⟩
  have HE := Sd.mk (((Ext.refl w).alloc _).trans he)
  have HJ := Sd.mk (box_ext (box_alloc w _) he)
  clear he
  cases b0
  · go_wp2_with fail
    go_ret
    exact ⟨rfl, HE.out⟩
  · go_wp2_with fail
    refine wp_region_held_drew (S := fun W => Ext wc W) (by kernel_rfl) ((Ext.refl _).drewN 1) (fun hHeld => ?_)
    refine wpAnyH_take (i := 0) (oi := { dst := some 6, op := Op.load 25 (Operand.tmp 1), type := 25, pos := "json_errors.go:131", after := #[], guard := none }) rfl (by kernel_rfl) (by kernel_rfl) (by kernel_rfl) (fun _ _ _ h => h) (yieldsIf_load_row (by rfl) 25 _ rfl w.heap.size rfl 25 (jv k b n t A0 la c B0 lb d) (0, 0) _ (fun W hSw => box_ext HJ.out hSw) Tryz.underlying25 rfl s25) (by assumption) ?_
    (try simp only [Act.put, List.setIfInBounds_toArray, List.set_cons_zero, List.set_cons_succ])
    refine wpAnyH_ready (rs := [1]) (by kernel_rfl) (by simp) ?_
    refine AllReadyH.cons (o := { dst := some 7, op := Op.buildSlice 23 1 #[(0, Operand.tmp 6)], type := 23, pos := "json_errors.go:131", after := #[{ on := 0, ground := Ground.data }], guard := none }) rfl (fun K hK => ?_) AllReadyH.nil
    go_simp
    refine hK.out _ _ (hHeld.alloc _) (fun hHeld => ?_)
    clear hK K
    (try simp only [Act.put, List.setIfInBounds_toArray, List.set_cons_zero, List.set_cons_succ])
    refine wpAnyH_ready (rs := [2]) (by kernel_rfl) (by simp) ?_
    refine AllReadyH.cons (o := { dst := some 8, op := Op.call { callee := Callee.value (Operand.func 5), args := #[Operand.tmp 7], argTypes := #[23] }, type := 4, pos := "json_errors.go:131", after := #[{ on := 1, ground := Ground.data }], guard := none }) rfl (fun K hK => ?_) AllReadyH.nil
    go_simp
    go_at_call 5; refine (countless_c [v] _ 1 _ (all_one ((H.out.ext (HE.out.trans hHeld))) (box_at (by simp))) (by simp)).mono ?_; rintro e w2 ⟨⟨b1, rfl, hb1⟩, he⟩; (try simp only []); have HB1 := Sd.mk hb1; have hX : Ext wc w2 := hHeld.trans he; clear hb1 he
    refine hK.out _ _ hX (fun hHeld => ?_)
    clear hK K
    (try simp only [Act.put, List.setIfInBounds_toArray, List.set_cons_zero, List.set_cons_succ])
    cases b1
    · (skip)
      refine wpAnyH_take (i := 3) (oi := { dst := some 9, op := Op.unOp UnOp.not 4 (Operand.tmp 8), type := 4, pos := "json_errors.go:131", after := #[{ on := 2, ground := Ground.data }], guard := none }) (v := ?_) rfl (by kernel_rfl) (by kernel_rfl) (by kernel_rfl) (fun _ _ _ h => h) (Or.inl ⟨by rfl, ?_⟩) (by assumption) ?_
      rotate_left
      · (intro w hSw; (try dsimp only at hSw); go_simp; (try with_reducible rfl))
      (try simp only [Act.put, List.setIfInBounds_toArray, List.set_cons_zero, List.set_cons_succ])
      refine wpAnyH_take (i := 4) (oi := { dst := some 10, op := Op.move (Operand.tmp 9), type := 4, pos := "json_errors.go:131", after := #[{ on := 3, ground := Ground.data }, { on := 2, ground := Ground.chain }], guard := none }) (v := ?_) rfl (by kernel_rfl) (by kernel_rfl) (by kernel_rfl) (fun _ _ _ h => h) (Or.inl ⟨by rfl, ?_⟩) (by assumption) ?_
      rotate_left
      · (intro w hSw; (try dsimp only at hSw); go_simp; (try with_reducible rfl))
      (try simp only [Act.put, List.setIfInBounds_toArray, List.set_cons_zero, List.set_cons_succ])
      refine wpAnyH_take (i := 5) (oi := { dst := some 11, op := Op.load 25 (Operand.tmp 1), type := 25, pos := "json_errors.go:131", after := #[{ on := 4, ground := Ground.guard }], guard := some (4, false) }) rfl (by kernel_rfl) (by kernel_rfl) (by kernel_rfl) (fun _ _ _ h => h) (yieldsIf_skip (by rfl)) (by assumption) ?_
      (try simp only [Act.put, List.setIfInBounds_toArray, List.set_cons_zero, List.set_cons_succ])
      refine wpAnyH_take (i := 6) (oi := { dst := some 12, op := Op.buildSlice 23 1 #[(0, Operand.tmp 11)], type := 23, pos := "json_errors.go:131", after := #[{ on := 5, ground := Ground.data }, { on := 4, ground := Ground.guard }], guard := some (4, false) }) rfl (by kernel_rfl) (by kernel_rfl) (by kernel_rfl) (fun _ _ _ h => h) (yieldsIf_skip (by rfl)) (by assumption) ?_
      (try simp only [Act.put, List.setIfInBounds_toArray, List.set_cons_zero, List.set_cons_succ])
      refine wpAnyH_take (i := 7) (oi := { dst := some 13, op := Op.call { callee := Callee.value (Operand.func 6), args := #[Operand.tmp 12], argTypes := #[23] }, type := 4, pos := "json_errors.go:131", after := #[{ on := 6, ground := Ground.data }, { on := 4, ground := Ground.chain }, { on := 4, ground := Ground.guard }], guard := some (4, false) }) rfl (by kernel_rfl) (by kernel_rfl) (by kernel_rfl) (fun _ _ _ h => h) (yieldsIf_skip (by rfl)) (by assumption) ?_
      (try simp only [Act.put, List.setIfInBounds_toArray, List.set_cons_zero, List.set_cons_succ])
      refine wpAnyH_take (i := 8) (oi := { dst := some 14, op := Op.unOp UnOp.not 4 (Operand.tmp 13), type := 4, pos := "json_errors.go:131", after := #[{ on := 7, ground := Ground.data }, { on := 4, ground := Ground.guard }], guard := some (4, false) }) rfl (by kernel_rfl) (by kernel_rfl) (by kernel_rfl) (fun _ _ _ h => h) (yieldsIf_skip (by rfl)) (by assumption) ?_
      (try simp only [Act.put, List.setIfInBounds_toArray, List.set_cons_zero, List.set_cons_succ])
      refine wpAnyH_take (i := 9) (oi := { dst := some 15, op := Op.pick (Operand.tmp 10) (Operand.const (Value.bool true)) (Operand.tmp 14), type := 4, pos := "json_errors.go:131", after := #[{ on := 4, ground := Ground.data }, { on := 8, ground := Ground.data }], guard := none }) (v := ?_) rfl (by kernel_rfl) (by kernel_rfl) (by kernel_rfl) (fun _ _ _ h => h) (Or.inl ⟨by rfl, ?_⟩) (by assumption) ?_
      rotate_left
      · (intro w hSw; (try dsimp only at hSw); go_simp; (try with_reducible rfl))
      (try simp only [Act.put, List.setIfInBounds_toArray, List.set_cons_zero, List.set_cons_succ])
      refine wpAnyH_take (i := 10) (oi := { dst := some 16, op := Op.move (Operand.tmp 15), type := 4, pos := "json_errors.go:131", after := #[{ on := 9, ground := Ground.data }, { on := 7, ground := Ground.chain }], guard := none }) (v := ?_) rfl (by kernel_rfl) (by kernel_rfl) (by kernel_rfl) (fun _ _ _ h => h) (Or.inl ⟨by rfl, ?_⟩) (by assumption) ?_
      rotate_left
      · (intro w hSw; (try dsimp only at hSw); go_simp; (try with_reducible rfl))
      (try simp only [Act.put, List.setIfInBounds_toArray, List.set_cons_zero, List.set_cons_succ])
      refine wpAnyH_take (i := 11) (oi := { dst := some 17, op := Op.build 44 #[(21, Operand.const (Value.bool true))], type := 44, pos := "json_errors.go:131", after := #[{ on := 10, ground := Ground.guard }], guard := some (10, false) }) rfl (by kernel_rfl) (by kernel_rfl) (by kernel_rfl) (fun _ _ _ h => h) (yieldsIf_skip (by rfl)) (by assumption) ?_
      (try simp only [Act.put, List.setIfInBounds_toArray, List.set_cons_zero, List.set_cons_succ])
      refine wpAnyH_take (i := 12) (oi := { dst := some 18, op := Op.call { callee := Callee.value (Operand.func 8), args := #[Operand.tmp 17], argTypes := #[44] }, type := 30, pos := "json_errors.go:131", after := #[{ on := 11, ground := Ground.data }, { on := 10, ground := Ground.chain }, { on := 10, ground := Ground.guard }], guard := some (10, false) }) rfl (by kernel_rfl) (by kernel_rfl) (by kernel_rfl) (fun _ _ _ h => h) (yieldsIf_skip (by rfl)) (by assumption) ?_
      (try simp only [Act.put, List.setIfInBounds_toArray, List.set_cons_zero, List.set_cons_succ])
      refine wpAnyH_take (i := 13) (oi := { dst := some 19, op := Op.load 25 (Operand.tmp 1), type := 25, pos := "json_errors.go:131", after := #[{ on := 10, ground := Ground.guard }], guard := some (10, false) }) rfl (by kernel_rfl) (by kernel_rfl) (by kernel_rfl) (fun _ _ _ h => h) (yieldsIf_skip (by rfl)) (by assumption) ?_
      (try simp only [Act.put, List.setIfInBounds_toArray, List.set_cons_zero, List.set_cons_succ])
      refine wpAnyH_take (i := 14) (oi := { dst := some 20, op := Op.buildSlice 22 1 #[(0, Operand.const (Value.string { data := #[85, 110, 105, 113, 117, 101, 73, 116, 101, 109, 115] }))], type := 22, pos := "json_errors.go:131", after := #[{ on := 10, ground := Ground.guard }], guard := some (10, false) }) rfl (by kernel_rfl) (by kernel_rfl) (by kernel_rfl) (fun _ _ _ h => h) (yieldsIf_skip (by rfl)) (by assumption) ?_
      (try simp only [Act.put, List.setIfInBounds_toArray, List.set_cons_zero, List.set_cons_succ])
      refine wpAnyH_take (i := 15) (oi := { dst := some 21, op := Op.call { callee := Callee.value (Operand.func 7), args := #[Operand.tmp 18, Operand.tmp 19, Operand.tmp 20], argTypes := #[30, 25, 22] }, type := 4, pos := "json_errors.go:131", after := #[{ on := 12, ground := Ground.data }, { on := 13, ground := Ground.data }, { on := 14, ground := Ground.data }, { on := 12, ground := Ground.chain }, { on := 10, ground := Ground.guard }], guard := some (10, false) }) rfl (by kernel_rfl) (by kernel_rfl) (by kernel_rfl) (fun _ _ _ h => h) (yieldsIf_skip (by rfl)) (by assumption) ?_
      (try simp only [Act.put, List.setIfInBounds_toArray, List.set_cons_zero, List.set_cons_succ])
      refine wpAnyH_take (i := 16) (oi := { dst := some 22, op := Op.move (Operand.tmp 21), type := 4, pos := "json_errors.go:131", after := #[{ on := 15, ground := Ground.data }, { on := 15, ground := Ground.chain }, { on := 10, ground := Ground.guard }], guard := some (10, false) }) rfl (by kernel_rfl) (by kernel_rfl) (by kernel_rfl) (fun _ _ _ h => h) (yieldsIf_skip (by rfl)) (by assumption) ?_
      (try simp only [Act.put, List.setIfInBounds_toArray, List.set_cons_zero, List.set_cons_succ])
      refine wpAnyH_take (i := 17) (oi := { dst := some 23, op := Op.call { callee := Callee.value (Operand.func 9), args := #[], argTypes := #[] }, type := 4, pos := "json_errors.go:131", after := #[{ on := 16, ground := Ground.chain }, { on := 16, ground := Ground.guard }], guard := some (16, true) }) rfl (by kernel_rfl) (by kernel_rfl) (by kernel_rfl) (fun _ _ _ h => h) (yieldsIf_skip (by rfl)) (by assumption) ?_
      (try simp only [Act.put, List.setIfInBounds_toArray, List.set_cons_zero, List.set_cons_succ])
      refine wpAnyH_take (i := 18) (oi := { dst := some 24, op := Op.pick (Operand.tmp 22) (Operand.tmp 23) (Operand.const (Value.bool false)), type := 4, pos := "json_errors.go:131", after := #[{ on := 16, ground := Ground.data }, { on := 17, ground := Ground.data }, { on := 10, ground := Ground.guard }], guard := some (10, false) }) rfl (by kernel_rfl) (by kernel_rfl) (by kernel_rfl) (fun _ _ _ h => h) (yieldsIf_skip (by rfl)) (by assumption) ?_
      (try simp only [Act.put, List.setIfInBounds_toArray, List.set_cons_zero, List.set_cons_succ])
      refine wpAnyH_take (i := 19) (oi := { dst := some 25, op := Op.pick (Operand.tmp 16) (Operand.const (Value.bool true)) (Operand.tmp 24), type := 4, pos := "json_errors.go:131", after := #[{ on := 10, ground := Ground.data }, { on := 18, ground := Ground.data }], guard := none }) (v := ?_) rfl (by kernel_rfl) (by kernel_rfl) (by kernel_rfl) (fun _ _ _ h => h) (Or.inl ⟨by rfl, ?_⟩) (by assumption) ?_
      rotate_left
      · (intro w hSw; (try dsimp only at hSw); go_simp; (try with_reducible rfl))
      (try simp only [Act.put, List.setIfInBounds_toArray, List.set_cons_zero, List.set_cons_succ])
      refine wpAnyH_take (i := 20) (oi := { dst := some 2, op := Op.assign (Operand.tmp 25), type := 4, pos := "json_errors.go:131", after := #[{ on := 19, ground := Ground.data }, { on := 17, ground := Ground.chain }, { on := 0, ground := Ground.phase }, { on := 1, ground := Ground.phase }, { on := 2, ground := Ground.phase }, { on := 3, ground := Ground.phase }, { on := 4, ground := Ground.phase }, { on := 5, ground := Ground.phase }, { on := 6, ground := Ground.phase }, { on := 7, ground := Ground.phase }, { on := 8, ground := Ground.phase }, { on := 9, ground := Ground.phase }, { on := 10, ground := Ground.phase }, { on := 11, ground := Ground.phase }, { on := 12, ground := Ground.phase }, { on := 13, ground := Ground.phase }, { on := 14, ground := Ground.phase }, { on := 15, ground := Ground.phase }, { on := 16, ground := Ground.phase }, { on := 17, ground := Ground.phase }, { on := 18, ground := Ground.phase }, { on := 19, ground := Ground.phase }], guard := none }) (v := ?_) rfl (by kernel_rfl) (by kernel_rfl) (by kernel_rfl) (fun _ _ _ h => h) (Or.inl ⟨by rfl, ?_⟩) (by assumption) ?_
      rotate_left
      · (intro w hSw; (try dsimp only at hSw); go_simp; (try with_reducible rfl))
      (try simp only [Act.put, List.setIfInBounds_toArray, List.set_cons_zero, List.set_cons_succ])
      refine wpAnyH_done (by kernel_rfl) ?_ _
      go_wp2_with fail
      go_ret
      exact ⟨rfl, HE.out.trans hHeld⟩
    · (skip)
      refine wpAnyH_take (i := 3) (oi := { dst := some 9, op := Op.unOp UnOp.not 4 (Operand.tmp 8), type := 4, pos := "json_errors.go:131", after := #[{ on := 2, ground := Ground.data }], guard := none }) (v := ?_) rfl (by kernel_rfl) (by kernel_rfl) (by kernel_rfl) (fun _ _ _ h => h) (Or.inl ⟨by rfl, ?_⟩) (by assumption) ?_
      rotate_left
      · (intro w hSw; (try dsimp only at hSw); go_simp; (try with_reducible rfl))
      (try simp only [Act.put, List.setIfInBounds_toArray, List.set_cons_zero, List.set_cons_succ])
      refine wpAnyH_take (i := 4) (oi := { dst := some 10, op := Op.move (Operand.tmp 9), type := 4, pos := "json_errors.go:131", after := #[{ on := 3, ground := Ground.data }, { on := 2, ground := Ground.chain }], guard := none }) (v := ?_) rfl (by kernel_rfl) (by kernel_rfl) (by kernel_rfl) (fun _ _ _ h => h) (Or.inl ⟨by rfl, ?_⟩) (by assumption) ?_
      rotate_left
      · (intro w hSw; (try dsimp only at hSw); go_simp; (try with_reducible rfl))
      (try simp only [Act.put, List.setIfInBounds_toArray, List.set_cons_zero, List.set_cons_succ])
      refine wpAnyH_take (i := 5) (oi := { dst := some 11, op := Op.load 25 (Operand.tmp 1), type := 25, pos := "json_errors.go:131", after := #[{ on := 4, ground := Ground.guard }], guard := some (4, false) }) rfl (by kernel_rfl) (by kernel_rfl) (by kernel_rfl) (fun _ _ _ h => h) (yieldsIf_load_row (by rfl) 25 _ rfl w.heap.size rfl 25 (jv k b n t A0 la c B0 lb d) (0, 0) _ (fun W hSw => box_ext HJ.out hSw) Tryz.underlying25 rfl s25) (by assumption) ?_
      (try simp only [Act.put, List.setIfInBounds_toArray, List.set_cons_zero, List.set_cons_succ])
      refine wpAnyH_ready (rs := [6]) (by kernel_rfl) (by simp) ?_
      refine AllReadyH.cons (o := { dst := some 12, op := Op.buildSlice 23 1 #[(0, Operand.tmp 11)], type := 23, pos := "json_errors.go:131", after := #[{ on := 5, ground := Ground.data }, { on := 4, ground := Ground.guard }], guard := some (4, false) }) rfl (fun K hK => ?_) AllReadyH.nil
      go_simp
      refine hK.out _ _ (hHeld.alloc _) (fun hHeld => ?_)
      clear hK K
      (try simp only [Act.put, List.setIfInBounds_toArray, List.set_cons_zero, List.set_cons_succ])
      refine wpAnyH_ready (rs := [7]) (by kernel_rfl) (by simp) ?_
      refine AllReadyH.cons (o := { dst := some 13, op := Op.call { callee := Callee.value (Operand.func 6), args := #[Operand.tmp 12], argTypes := #[23] }, type := 4, pos := "json_errors.go:131", after := #[{ on := 6, ground := Ground.data }, { on := 4, ground := Ground.chain }, { on := 4, ground := Ground.guard }], guard := some (4, false) }) rfl (fun K hK => ?_) AllReadyH.nil
      go_simp
      go_at_call 6; refine (short_c [v] _ 1 _ (all_one ((H.out.ext (HE.out.trans hHeld))) (box_at (by simp))) (by simp)).mono ?_; rintro e w2 ⟨⟨b2, rfl, hb2⟩, he⟩; (try simp only []); have HB2 := Sd.mk hb2; have hX : Ext wc w2 := hHeld.trans he; clear hb2 he
      refine hK.out _ _ hX (fun hHeld => ?_)
      clear hK K
      (try simp only [Act.put, List.setIfInBounds_toArray, List.set_cons_zero, List.set_cons_succ])
      cases b2
      · (skip)
        refine wpAnyH_take (i := 8) (oi := { dst := some 14, op := Op.unOp UnOp.not 4 (Operand.tmp 13), type := 4, pos := "json_errors.go:131", after := #[{ on := 7, ground := Ground.data }, { on := 4, ground := Ground.guard }], guard := some (4, false) }) (v := ?_) rfl (by kernel_rfl) (by kernel_rfl) (by kernel_rfl) (fun _ _ _ h => h) (Or.inl ⟨by rfl, ?_⟩) (by assumption) ?_
        rotate_left
        · (intro w hSw; (try dsimp only at hSw); go_simp; (try with_reducible rfl))
        (try simp only [Act.put, List.setIfInBounds_toArray, List.set_cons_zero, List.set_cons_succ])
        refine wpAnyH_take (i := 9) (oi := { dst := some 15, op := Op.pick (Operand.tmp 10) (Operand.const (Value.bool true)) (Operand.tmp 14), type := 4, pos := "json_errors.go:131", after := #[{ on := 4, ground := Ground.data }, { on := 8, ground := Ground.data }], guard := none }) (v := ?_) rfl (by kernel_rfl) (by kernel_rfl) (by kernel_rfl) (fun _ _ _ h => h) (Or.inl ⟨by rfl, ?_⟩) (by assumption) ?_
        rotate_left
        · (intro w hSw; (try dsimp only at hSw); go_simp; (try with_reducible rfl))
        (try simp only [Act.put, List.setIfInBounds_toArray, List.set_cons_zero, List.set_cons_succ])
        refine wpAnyH_take (i := 10) (oi := { dst := some 16, op := Op.move (Operand.tmp 15), type := 4, pos := "json_errors.go:131", after := #[{ on := 9, ground := Ground.data }, { on := 7, ground := Ground.chain }], guard := none }) (v := ?_) rfl (by kernel_rfl) (by kernel_rfl) (by kernel_rfl) (fun _ _ _ h => h) (Or.inl ⟨by rfl, ?_⟩) (by assumption) ?_
        rotate_left
        · (intro w hSw; (try dsimp only at hSw); go_simp; (try with_reducible rfl))
        (try simp only [Act.put, List.setIfInBounds_toArray, List.set_cons_zero, List.set_cons_succ])
        refine wpAnyH_take (i := 11) (oi := { dst := some 17, op := Op.build 44 #[(21, Operand.const (Value.bool true))], type := 44, pos := "json_errors.go:131", after := #[{ on := 10, ground := Ground.guard }], guard := some (10, false) }) rfl (by kernel_rfl) (by kernel_rfl) (by kernel_rfl) (fun _ _ _ h => h) (yieldsIf_skip (by rfl)) (by assumption) ?_
        (try simp only [Act.put, List.setIfInBounds_toArray, List.set_cons_zero, List.set_cons_succ])
        refine wpAnyH_take (i := 12) (oi := { dst := some 18, op := Op.call { callee := Callee.value (Operand.func 8), args := #[Operand.tmp 17], argTypes := #[44] }, type := 30, pos := "json_errors.go:131", after := #[{ on := 11, ground := Ground.data }, { on := 10, ground := Ground.chain }, { on := 10, ground := Ground.guard }], guard := some (10, false) }) rfl (by kernel_rfl) (by kernel_rfl) (by kernel_rfl) (fun _ _ _ h => h) (yieldsIf_skip (by rfl)) (by assumption) ?_
        (try simp only [Act.put, List.setIfInBounds_toArray, List.set_cons_zero, List.set_cons_succ])
        refine wpAnyH_take (i := 13) (oi := { dst := some 19, op := Op.load 25 (Operand.tmp 1), type := 25, pos := "json_errors.go:131", after := #[{ on := 10, ground := Ground.guard }], guard := some (10, false) }) rfl (by kernel_rfl) (by kernel_rfl) (by kernel_rfl) (fun _ _ _ h => h) (yieldsIf_skip (by rfl)) (by assumption) ?_
        (try simp only [Act.put, List.setIfInBounds_toArray, List.set_cons_zero, List.set_cons_succ])
        refine wpAnyH_take (i := 14) (oi := { dst := some 20, op := Op.buildSlice 22 1 #[(0, Operand.const (Value.string { data := #[85, 110, 105, 113, 117, 101, 73, 116, 101, 109, 115] }))], type := 22, pos := "json_errors.go:131", after := #[{ on := 10, ground := Ground.guard }], guard := some (10, false) }) rfl (by kernel_rfl) (by kernel_rfl) (by kernel_rfl) (fun _ _ _ h => h) (yieldsIf_skip (by rfl)) (by assumption) ?_
        (try simp only [Act.put, List.setIfInBounds_toArray, List.set_cons_zero, List.set_cons_succ])
        refine wpAnyH_take (i := 15) (oi := { dst := some 21, op := Op.call { callee := Callee.value (Operand.func 7), args := #[Operand.tmp 18, Operand.tmp 19, Operand.tmp 20], argTypes := #[30, 25, 22] }, type := 4, pos := "json_errors.go:131", after := #[{ on := 12, ground := Ground.data }, { on := 13, ground := Ground.data }, { on := 14, ground := Ground.data }, { on := 12, ground := Ground.chain }, { on := 10, ground := Ground.guard }], guard := some (10, false) }) rfl (by kernel_rfl) (by kernel_rfl) (by kernel_rfl) (fun _ _ _ h => h) (yieldsIf_skip (by rfl)) (by assumption) ?_
        (try simp only [Act.put, List.setIfInBounds_toArray, List.set_cons_zero, List.set_cons_succ])
        refine wpAnyH_take (i := 16) (oi := { dst := some 22, op := Op.move (Operand.tmp 21), type := 4, pos := "json_errors.go:131", after := #[{ on := 15, ground := Ground.data }, { on := 15, ground := Ground.chain }, { on := 10, ground := Ground.guard }], guard := some (10, false) }) rfl (by kernel_rfl) (by kernel_rfl) (by kernel_rfl) (fun _ _ _ h => h) (yieldsIf_skip (by rfl)) (by assumption) ?_
        (try simp only [Act.put, List.setIfInBounds_toArray, List.set_cons_zero, List.set_cons_succ])
        refine wpAnyH_take (i := 17) (oi := { dst := some 23, op := Op.call { callee := Callee.value (Operand.func 9), args := #[], argTypes := #[] }, type := 4, pos := "json_errors.go:131", after := #[{ on := 16, ground := Ground.chain }, { on := 16, ground := Ground.guard }], guard := some (16, true) }) rfl (by kernel_rfl) (by kernel_rfl) (by kernel_rfl) (fun _ _ _ h => h) (yieldsIf_skip (by rfl)) (by assumption) ?_
        (try simp only [Act.put, List.setIfInBounds_toArray, List.set_cons_zero, List.set_cons_succ])
        refine wpAnyH_take (i := 18) (oi := { dst := some 24, op := Op.pick (Operand.tmp 22) (Operand.tmp 23) (Operand.const (Value.bool false)), type := 4, pos := "json_errors.go:131", after := #[{ on := 16, ground := Ground.data }, { on := 17, ground := Ground.data }, { on := 10, ground := Ground.guard }], guard := some (10, false) }) rfl (by kernel_rfl) (by kernel_rfl) (by kernel_rfl) (fun _ _ _ h => h) (yieldsIf_skip (by rfl)) (by assumption) ?_
        (try simp only [Act.put, List.setIfInBounds_toArray, List.set_cons_zero, List.set_cons_succ])
        refine wpAnyH_take (i := 19) (oi := { dst := some 25, op := Op.pick (Operand.tmp 16) (Operand.const (Value.bool true)) (Operand.tmp 24), type := 4, pos := "json_errors.go:131", after := #[{ on := 10, ground := Ground.data }, { on := 18, ground := Ground.data }], guard := none }) (v := ?_) rfl (by kernel_rfl) (by kernel_rfl) (by kernel_rfl) (fun _ _ _ h => h) (Or.inl ⟨by rfl, ?_⟩) (by assumption) ?_
        rotate_left
        · (intro w hSw; (try dsimp only at hSw); go_simp; (try with_reducible rfl))
        (try simp only [Act.put, List.setIfInBounds_toArray, List.set_cons_zero, List.set_cons_succ])
        refine wpAnyH_take (i := 20) (oi := { dst := some 2, op := Op.assign (Operand.tmp 25), type := 4, pos := "json_errors.go:131", after := #[{ on := 19, ground := Ground.data }, { on := 17, ground := Ground.chain }, { on := 0, ground := Ground.phase }, { on := 1, ground := Ground.phase }, { on := 2, ground := Ground.phase }, { on := 3, ground := Ground.phase }, { on := 4, ground := Ground.phase }, { on := 5, ground := Ground.phase }, { on := 6, ground := Ground.phase }, { on := 7, ground := Ground.phase }, { on := 8, ground := Ground.phase }, { on := 9, ground := Ground.phase }, { on := 10, ground := Ground.phase }, { on := 11, ground := Ground.phase }, { on := 12, ground := Ground.phase }, { on := 13, ground := Ground.phase }, { on := 14, ground := Ground.phase }, { on := 15, ground := Ground.phase }, { on := 16, ground := Ground.phase }, { on := 17, ground := Ground.phase }, { on := 18, ground := Ground.phase }, { on := 19, ground := Ground.phase }], guard := none }) (v := ?_) rfl (by kernel_rfl) (by kernel_rfl) (by kernel_rfl) (fun _ _ _ h => h) (Or.inl ⟨by rfl, ?_⟩) (by assumption) ?_
        rotate_left
        · (intro w hSw; (try dsimp only at hSw); go_simp; (try with_reducible rfl))
        (try simp only [Act.put, List.setIfInBounds_toArray, List.set_cons_zero, List.set_cons_succ])
        refine wpAnyH_done (by kernel_rfl) ?_ _
        go_wp2_with fail
        go_ret
        exact ⟨rfl, HE.out.trans hHeld⟩
      · (skip)
        refine wpAnyH_take (i := 8) (oi := { dst := some 14, op := Op.unOp UnOp.not 4 (Operand.tmp 13), type := 4, pos := "json_errors.go:131", after := #[{ on := 7, ground := Ground.data }, { on := 4, ground := Ground.guard }], guard := some (4, false) }) (v := ?_) rfl (by kernel_rfl) (by kernel_rfl) (by kernel_rfl) (fun _ _ _ h => h) (Or.inl ⟨by rfl, ?_⟩) (by assumption) ?_
        rotate_left
        · (intro w hSw; (try dsimp only at hSw); go_simp; (try with_reducible rfl))
        (try simp only [Act.put, List.setIfInBounds_toArray, List.set_cons_zero, List.set_cons_succ])
        refine wpAnyH_take (i := 9) (oi := { dst := some 15, op := Op.pick (Operand.tmp 10) (Operand.const (Value.bool true)) (Operand.tmp 14), type := 4, pos := "json_errors.go:131", after := #[{ on := 4, ground := Ground.data }, { on := 8, ground := Ground.data }], guard := none }) (v := ?_) rfl (by kernel_rfl) (by kernel_rfl) (by kernel_rfl) (fun _ _ _ h => h) (Or.inl ⟨by rfl, ?_⟩) (by assumption) ?_
        rotate_left
        · (intro w hSw; (try dsimp only at hSw); go_simp; (try with_reducible rfl))
        (try simp only [Act.put, List.setIfInBounds_toArray, List.set_cons_zero, List.set_cons_succ])
        refine wpAnyH_take (i := 10) (oi := { dst := some 16, op := Op.move (Operand.tmp 15), type := 4, pos := "json_errors.go:131", after := #[{ on := 9, ground := Ground.data }, { on := 7, ground := Ground.chain }], guard := none }) (v := ?_) rfl (by kernel_rfl) (by kernel_rfl) (by kernel_rfl) (fun _ _ _ h => h) (Or.inl ⟨by rfl, ?_⟩) (by assumption) ?_
        rotate_left
        · (intro w hSw; (try dsimp only at hSw); go_simp; (try with_reducible rfl))
        (try simp only [Act.put, List.setIfInBounds_toArray, List.set_cons_zero, List.set_cons_succ])
        refine wpAnyH_take (i := 11) (oi := { dst := some 17, op := Op.build 44 #[(21, Operand.const (Value.bool true))], type := 44, pos := "json_errors.go:131", after := #[{ on := 10, ground := Ground.guard }], guard := some (10, false) }) rfl (by kernel_rfl) (by kernel_rfl) (by kernel_rfl) (fun _ _ _ h => h) (yieldsIf_build (by rfl) 44 _ rfl (node 0 true) (by intro w; simp only [List.map_toArray, List.map_cons, List.map_nil]; exact build44t w)) (by assumption) ?_
        (try simp only [Act.put, List.setIfInBounds_toArray, List.set_cons_zero, List.set_cons_succ])
        refine wpAnyH_take (i := 13) (oi := { dst := some 19, op := Op.load 25 (Operand.tmp 1), type := 25, pos := "json_errors.go:131", after := #[{ on := 10, ground := Ground.guard }], guard := some (10, false) }) rfl (by kernel_rfl) (by kernel_rfl) (by kernel_rfl) (fun _ _ _ h => h) (yieldsIf_load_row (by rfl) 25 _ rfl w.heap.size rfl 25 (jv k b n t A0 la c B0 lb d) (0, 0) _ (fun W hSw => box_ext HJ.out hSw) Tryz.underlying25 rfl s25) (by assumption) ?_
        (try simp only [Act.put, List.setIfInBounds_toArray, List.set_cons_zero, List.set_cons_succ])
        refine wpAnyH_ready (rs := [12, 14]) (by kernel_rfl) (by simp) ?_
        refine AllReadyH.cons (o := { dst := some 18, op := Op.call { callee := Callee.value (Operand.func 8), args := #[Operand.tmp 17], argTypes := #[44] }, type := 30, pos := "json_errors.go:131", after := #[{ on := 11, ground := Ground.data }, { on := 10, ground := Ground.chain }, { on := 10, ground := Ground.guard }], guard := some (10, false) }) rfl (fun K hK => ?_) ?_
        · (skip)
          go_simp
          go_at_call 8; refine (alone_c _).mono ?_; rintro e w2 ⟨rfl, he, hn⟩; (try simp only []); have HN := Sd.mk hn; have hX : Ext wc w2 := hHeld.trans he; clear hn he
          refine hK.out _ _ hX (fun hHeld => ?_)
          clear hK K
          (try simp only [Act.put, List.setIfInBounds_toArray, List.set_cons_zero, List.set_cons_succ])
          refine wpAnyH_ready (rs := [14]) (by kernel_rfl) (by simp) ?_
          refine AllReadyH.cons (o := { dst := some 20, op := Op.buildSlice 22 1 #[(0, Operand.const (Value.string { data := #[85, 110, 105, 113, 117, 101, 73, 116, 101, 109, 115] }))], type := 22, pos := "json_errors.go:131", after := #[{ on := 10, ground := Ground.guard }], guard := some (10, false) }) rfl (fun K hK => ?_) AllReadyH.nil
          go_simp
          refine hK.out _ _ (hHeld.alloc _) (fun hHeld => ?_)
          clear hK K
          (try simp only [Act.put, List.setIfInBounds_toArray, List.set_cons_zero, List.set_cons_succ])
          refine wpAnyH_ready (rs := [15]) (by kernel_rfl) (by simp) ?_
          refine AllReadyH.cons (o := { dst := some 21, op := Op.call { callee := Callee.value (Operand.func 7), args := #[Operand.tmp 18, Operand.tmp 19, Operand.tmp 20], argTypes := #[30, 25, 22] }, type := 4, pos := "json_errors.go:131", after := #[{ on := 12, ground := Ground.data }, { on := 13, ground := Ground.data }, { on := 14, ground := Ground.data }, { on := 12, ground := Ground.chain }, { on := 10, ground := Ground.guard }], guard := some (10, false) }) rfl (fun K hK => ?_) AllReadyH.nil
          go_simp
          go_at_call 7; refine (tells_uniq v k b n t A0 la c B0 lb d _ _ 1 _ (H.out.ext (HE.out.trans hHeld)) (HB1.out rfl 0 (by simp)).1 (HB1.out rfl 0 (by simp)).2 (short_of (HB2.out rfl 0 (by simp))) (box_keep HN.out _) ((box_cell (box_at (by simp)) 0))).mono ?_; rintro e w2 ⟨rfl, he⟩; (try simp only []); have hX : Ext wc w2 := hHeld.trans he; clear he
          refine hK.out _ _ hX (fun hHeld => ?_)
          clear hK K
          (try simp only [Act.put, List.setIfInBounds_toArray, List.set_cons_zero, List.set_cons_succ])
          refine wpAnyH_take (i := 16) (oi := { dst := some 22, op := Op.move (Operand.tmp 21), type := 4, pos := "json_errors.go:131", after := #[{ on := 15, ground := Ground.data }, { on := 15, ground := Ground.chain }, { on := 10, ground := Ground.guard }], guard := some (10, false) }) (v := ?_) rfl (by kernel_rfl) (by kernel_rfl) (by kernel_rfl) (fun _ _ _ h => h) (Or.inl ⟨by rfl, ?_⟩) (by assumption) ?_
          rotate_left
          · (intro w hSw; (try dsimp only at hSw); go_simp; (try with_reducible rfl))
          (try simp only [Act.put, List.setIfInBounds_toArray, List.set_cons_zero, List.set_cons_succ])
          refine wpAnyH_ready (rs := [17]) (by kernel_rfl) (by simp) ?_
          refine AllReadyH.cons (o := { dst := some 23, op := Op.call { callee := Callee.value (Operand.func 9), args := #[], argTypes := #[] }, type := 4, pos := "json_errors.go:131", after := #[{ on := 16, ground := Ground.chain }, { on := 16, ground := Ground.guard }], guard := some (16, true) }) rfl (fun K hK => ?_) AllReadyH.nil
          go_simp
          go_at_call 9; refine (tells_false _).mono ?_; rintro e w2 ⟨rfl, he⟩; (try simp only []); have hX : Ext wc w2 := hHeld.trans he; clear he
          refine hK.out _ _ hX (fun hHeld => ?_)
          clear hK K
          (try simp only [Act.put, List.setIfInBounds_toArray, List.set_cons_zero, List.set_cons_succ])
          refine wpAnyH_take (i := 18) (oi := { dst := some 24, op := Op.pick (Operand.tmp 22) (Operand.tmp 23) (Operand.const (Value.bool false)), type := 4, pos := "json_errors.go:131", after := #[{ on := 16, ground := Ground.data }, { on := 17, ground := Ground.data }, { on := 10, ground := Ground.guard }], guard := some (10, false) }) (v := ?_) rfl (by kernel_rfl) (by kernel_rfl) (by kernel_rfl) (fun _ _ _ h => h) (Or.inl ⟨by rfl, ?_⟩) (by assumption) ?_
          rotate_left
          · (intro w hSw; (try dsimp only at hSw); go_simp; (try with_reducible rfl))
          (try simp only [Act.put, List.setIfInBounds_toArray, List.set_cons_zero, List.set_cons_succ])
          refine wpAnyH_take (i := 19) (oi := { dst := some 25, op := Op.pick (Operand.tmp 16) (Operand.const (Value.bool true)) (Operand.tmp 24), type := 4, pos := "json_errors.go:131", after := #[{ on := 10, ground := Ground.data }, { on := 18, ground := Ground.data }], guard := none }) (v := ?_) rfl (by kernel_rfl) (by kernel_rfl) (by kernel_rfl) (fun _ _ _ h => h) (Or.inl ⟨by rfl, ?_⟩) (by assumption) ?_
          rotate_left
          · (intro w hSw; (try dsimp only at hSw); go_simp; (try with_reducible rfl))
          (try simp only [Act.put, List.setIfInBounds_toArray, List.set_cons_zero, List.set_cons_succ])
          refine wpAnyH_take (i := 20) (oi := { dst := some 2, op := Op.assign (Operand.tmp 25), type := 4, pos := "json_errors.go:131", after := #[{ on := 19, ground := Ground.data }, { on := 17, ground := Ground.chain }, { on := 0, ground := Ground.phase }, { on := 1, ground := Ground.phase }, { on := 2, ground := Ground.phase }, { on := 3, ground := Ground.phase }, { on := 4, ground := Ground.phase }, { on := 5, ground := Ground.phase }, { on := 6, ground := Ground.phase }, { on := 7, ground := Ground.phase }, { on := 8, ground := Ground.phase }, { on := 9, ground := Ground.phase }, { on := 10, ground := Ground.phase }, { on := 11, ground := Ground.phase }, { on := 12, ground := Ground.phase }, { on := 13, ground := Ground.phase }, { on := 14, ground := Ground.phase }, { on := 15, ground := Ground.phase }, { on := 16, ground := Ground.phase }, { on := 17, ground := Ground.phase }, { on := 18, ground := Ground.phase }, { on := 19, ground := Ground.phase }], guard := none }) (v := ?_) rfl (by kernel_rfl) (by kernel_rfl) (by kernel_rfl) (fun _ _ _ h => h) (Or.inl ⟨by rfl, ?_⟩) (by assumption) ?_
          rotate_left
          · (intro w hSw; (try dsimp only at hSw); go_simp; (try with_reducible rfl))
          (try simp only [Act.put, List.setIfInBounds_toArray, List.set_cons_zero, List.set_cons_succ])
          refine wpAnyH_done (by kernel_rfl) ?_ _
          go_wp2_with fail
          go_ret
          exact ⟨rfl, HE.out.trans hHeld⟩
        refine AllReadyH.cons (o := { dst := some 20, op := Op.buildSlice 22 1 #[(0, Operand.const (Value.string { data := #[85, 110, 105, 113, 117, 101, 73, 116, 101, 109, 115] }))], type := 22, pos := "json_errors.go:131", after := #[{ on := 10, ground := Ground.guard }], guard := some (10, false) }) rfl (fun K hK => ?_) AllReadyH.nil
        go_simp
        refine hK.out _ _ (hHeld.alloc _) (fun hHeld => ?_)
        clear hK K
        (try simp only [Act.put, List.setIfInBounds_toArray, List.set_cons_zero, List.set_cons_succ])
        refine wpAnyH_ready (rs := [12]) (by kernel_rfl) (by simp) ?_
        refine AllReadyH.cons (o := { dst := some 18, op := Op.call { callee := Callee.value (Operand.func 8), args := #[Operand.tmp 17], argTypes := #[44] }, type := 30, pos := "json_errors.go:131", after := #[{ on := 11, ground := Ground.data }, { on := 10, ground := Ground.chain }, { on := 10, ground := Ground.guard }], guard := some (10, false) }) rfl (fun K hK => ?_) AllReadyH.nil
        go_simp
        have hcl : (w2.alloc (.cells #[.string ⟨#[85, 110, 105, 113, 117, 101, 73, 116, 101, 109, 115]⟩] 9)).cell? ⟨w2.heap.size, 0, none⟩ = some (.string sUniq) := box_cell (box_alloc w2 _) 0; go_at_call 8; refine (alone_c _).mono ?_; rintro e w3 ⟨rfl, he, hn⟩; (try simp only []); have HN := Sd.mk hn; have hX : Ext wc w3 := hHeld.trans he; have HCL := Sd.mk (he.cell hcl); clear hn he hcl
        refine hK.out _ _ hX (fun hHeld => ?_)
        clear hK K
        (try simp only [Act.put, List.setIfInBounds_toArray, List.set_cons_zero, List.set_cons_succ])
        refine wpAnyH_ready (rs := [15]) (by kernel_rfl) (by simp) ?_
        refine AllReadyH.cons (o := { dst := some 21, op := Op.call { callee := Callee.value (Operand.func 7), args := #[Operand.tmp 18, Operand.tmp 19, Operand.tmp 20], argTypes := #[30, 25, 22] }, type := 4, pos := "json_errors.go:131", after := #[{ on := 12, ground := Ground.data }, { on := 13, ground := Ground.data }, { on := 14, ground := Ground.data }, { on := 12, ground := Ground.chain }, { on := 10, ground := Ground.guard }], guard := some (10, false) }) rfl (fun K hK => ?_) AllReadyH.nil
        go_simp
        go_at_call 7; refine (tells_uniq v k b n t A0 la c B0 lb d _ _ 1 _ (H.out.ext (HE.out.trans hHeld)) (HB1.out rfl 0 (by simp)).1 (HB1.out rfl 0 (by simp)).2 (short_of (HB2.out rfl 0 (by simp))) (by simpa using HN.out) (HCL.out)).mono ?_; rintro e w2 ⟨rfl, he⟩; (try simp only []); have hX : Ext wc w2 := hHeld.trans he; clear he
        refine hK.out _ _ hX (fun hHeld => ?_)
        clear hK K
        (try simp only [Act.put, List.setIfInBounds_toArray, List.set_cons_zero, List.set_cons_succ])
        refine wpAnyH_take (i := 16) (oi := { dst := some 22, op := Op.move (Operand.tmp 21), type := 4, pos := "json_errors.go:131", after := #[{ on := 15, ground := Ground.data }, { on := 15, ground := Ground.chain }, { on := 10, ground := Ground.guard }], guard := some (10, false) }) (v := ?_) rfl (by kernel_rfl) (by kernel_rfl) (by kernel_rfl) (fun _ _ _ h => h) (Or.inl ⟨by rfl, ?_⟩) (by assumption) ?_
        rotate_left
        · (intro w hSw; (try dsimp only at hSw); go_simp; (try with_reducible rfl))
        (try simp only [Act.put, List.setIfInBounds_toArray, List.set_cons_zero, List.set_cons_succ])
        refine wpAnyH_ready (rs := [17]) (by kernel_rfl) (by simp) ?_
        refine AllReadyH.cons (o := { dst := some 23, op := Op.call { callee := Callee.value (Operand.func 9), args := #[], argTypes := #[] }, type := 4, pos := "json_errors.go:131", after := #[{ on := 16, ground := Ground.chain }, { on := 16, ground := Ground.guard }], guard := some (16, true) }) rfl (fun K hK => ?_) AllReadyH.nil
        go_simp
        go_at_call 9; refine (tells_false _).mono ?_; rintro e w2 ⟨rfl, he⟩; (try simp only []); have hX : Ext wc w2 := hHeld.trans he; clear he
        refine hK.out _ _ hX (fun hHeld => ?_)
        clear hK K
        (try simp only [Act.put, List.setIfInBounds_toArray, List.set_cons_zero, List.set_cons_succ])
        refine wpAnyH_take (i := 18) (oi := { dst := some 24, op := Op.pick (Operand.tmp 22) (Operand.tmp 23) (Operand.const (Value.bool false)), type := 4, pos := "json_errors.go:131", after := #[{ on := 16, ground := Ground.data }, { on := 17, ground := Ground.data }, { on := 10, ground := Ground.guard }], guard := some (10, false) }) (v := ?_) rfl (by kernel_rfl) (by kernel_rfl) (by kernel_rfl) (fun _ _ _ h => h) (Or.inl ⟨by rfl, ?_⟩) (by assumption) ?_
        rotate_left
        · (intro w hSw; (try dsimp only at hSw); go_simp; (try with_reducible rfl))
        (try simp only [Act.put, List.setIfInBounds_toArray, List.set_cons_zero, List.set_cons_succ])
        refine wpAnyH_take (i := 19) (oi := { dst := some 25, op := Op.pick (Operand.tmp 16) (Operand.const (Value.bool true)) (Operand.tmp 24), type := 4, pos := "json_errors.go:131", after := #[{ on := 10, ground := Ground.data }, { on := 18, ground := Ground.data }], guard := none }) (v := ?_) rfl (by kernel_rfl) (by kernel_rfl) (by kernel_rfl) (fun _ _ _ h => h) (Or.inl ⟨by rfl, ?_⟩) (by assumption) ?_
        rotate_left
        · (intro w hSw; (try dsimp only at hSw); go_simp; (try with_reducible rfl))
        (try simp only [Act.put, List.setIfInBounds_toArray, List.set_cons_zero, List.set_cons_succ])
        refine wpAnyH_take (i := 20) (oi := { dst := some 2, op := Op.assign (Operand.tmp 25), type := 4, pos := "json_errors.go:131", after := #[{ on := 19, ground := Ground.data }, { on := 17, ground := Ground.chain }, { on := 0, ground := Ground.phase }, { on := 1, ground := Ground.phase }, { on := 2, ground := Ground.phase }, { on := 3, ground := Ground.phase }, { on := 4, ground := Ground.phase }, { on := 5, ground := Ground.phase }, { on := 6, ground := Ground.phase }, { on := 7, ground := Ground.phase }, { on := 8, ground := Ground.phase }, { on := 9, ground := Ground.phase }, { on := 10, ground := Ground.phase }, { on := 11, ground := Ground.phase }, { on := 12, ground := Ground.phase }, { on := 13, ground := Ground.phase }, { on := 14, ground := Ground.phase }, { on := 15, ground := Ground.phase }, { on := 16, ground := Ground.phase }, { on := 17, ground := Ground.phase }, { on := 18, ground := Ground.phase }, { on := 19, ground := Ground.phase }], guard := none }) (v := ?_) rfl (by kernel_rfl) (by kernel_rfl) (by kernel_rfl) (fun _ _ _ h => h) (Or.inl ⟨by rfl, ?_⟩) (by assumption) ?_
        rotate_left
        · (intro w hSw; (try dsimp only at hSw); go_simp; (try with_reducible rfl))
        (try simp only [Act.put, List.setIfInBounds_toArray, List.set_cons_zero, List.set_cons_succ])
        refine wpAnyH_done (by kernel_rfl) ?_ _
        go_wp2_with fail
        go_ret
        exact ⟨rfl, HE.out.trans hHeld⟩

end Go.Proofs.YtgkjdgolffnagaaGreatDoor
