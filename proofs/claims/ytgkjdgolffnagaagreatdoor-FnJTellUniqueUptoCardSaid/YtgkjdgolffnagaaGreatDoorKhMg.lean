/- Parts of the proof of the statement that this folder hands in: lemmas and contracts (Kh, Kh1). -/
import Derived.Test.YtgkjdgolffnagaaGreatDoorKg
import Derived.Test.YtgkjdgolffnagaaGreatDoorKf
set_option linter.unusedSimpArgs false
set_option linter.unusedVariables false
namespace Go.Proofs.YtgkjdgolffnagaaGreatDoor
open Go.RowKit

theorem Ext.stay {a w : World} (h : Ext a w) {p : Nat} {cs : Array Value} {t : TypeId} {fr : Nat × Nat} (hp : w.heap[p]? = some (.cells cs t fr)) {i : Nat} {v : Value} (e : cs.setIfInBounds i v = cs) : Ext a (w.setCell ⟨p, i, none⟩ v) :=
  ⟨h.os, h.tape, h.output, by simpa [World.setCell] using h.size, fun k hk => by
    rw [← h.block k hk]
    by_cases hk : k = p
    · subst hk; rw [box_set hp, e, hp]
    · exact box_other (h := rfl) _ hk _⟩

theorem wpList_load_row_g {P : Program} {ops : Array Oper} {rest : List Oper} {o : Oper} {a : Act} {w : World} {Q : Exit → Act → World → Prop} (hw : Region.wanted o (yielded ops a.tmps) = true) (ty : TypeId) (x : Operand) (ho : o.op = .load ty x)
    (g : Nat) (hx : a.eval x = .pointer (some ⟨g, 0, none⟩)) (t : TypeId) (cs : Array Value) (fr : Nat × Nat) (d : TypeDesc) (hg : w.heap[g]? = some (.cells cs t fr))
    (hu : P.underlying ty = some d) (hd : (match d with | .struct _ | .array _ _ => true | _ => false) = true) (hi : (P.info? ty).map (·.size) = some cs.size)
    (h : wpList P ops Q rest (a.put o.dst (.agg cs)) w) : wpList P ops Q (o :: rest) a w :=
  wpList_step fun K hK => by
    rw [if_pos hw]
    exact wp_load_row ty x ho g hx t cs fr d hg hu hd hi (hK _ _ h)

end Go.Proofs.YtgkjdgolffnagaaGreatDoor
set_option linter.unusedVariables false
namespace Go.Proofs.YtgkjdgolffnagaaGreatDoor
open Go.RowKit

set_option maxHeartbeats 0 in
set_option maxRecDepth 100000 in
theorem jarray_t (nb : Nat) (k : Int) (b : Bool) (n : Int) (t : ByteArray) (ns : List ByteArray) (is : List JV) (hok : ∀ i (h : i < is.length), (is[i]).Ok) (hcn : ∀ i (h : i < is.length), (is[i]).counts = true) (A : Option Addr) (c : Nat) (B : Option Addr) (d : Nat) (w : World)
    (hl : is.length ≤ 1048576) (h : JV.All w B 0 is) (M cm : Nat) (cs : Array Value) (hM : w.heap[M]? = some (.cells cs 4 (0, 0))) (hcs : ∀ i, i < is.length → cs[i]? = some (.bool false)) (hT : Twins is) :
    Calls Tryz.prog 37 #[.int .i64 2020, .agg (jn nb), .agg (node 0 true), .agg (jv k b n t A ns.length c B is.length d), .slice (some ⟨M, 0, none⟩) is.length cm] w fun e w' => e = .returned (.bool false) ∧ Ext w w' := by
  have H := Sd.mk h
  have OK := Sd.mk hok
  have CN := Sd.mk hcn
  have HM := Sd.mk hM
  have HCS := Sd.mk hcs
  have HT := Sd.mk hT
  clear h hok hcn hM hcs hT
  have HE0 := Sd.mk ((((Ext.refl w).alloc (.cells (jn nb) 63)).alloc (.cells (node 0 true) 44)).alloc (.cells (jv k b n t A ns.length c B is.length d) 25))
  have HW := Sd.mk (Ext.refl (((w.alloc (.cells (jn nb) 63)).alloc (.cells (node 0 true) 44)).alloc (.cells (jv k b n t A ns.length c B is.length d) 25)))
  have HJ := Sd.mk (show (((w.alloc (.cells (jn nb) 63)).alloc (.cells (node 0 true) 44)).alloc (.cells (jv k b n t A ns.length c B is.length d) 25)).heap[w.heap.size]? = some _ from box_keep (box_keep (box_alloc w _) _) _)
  have HN := Sd.mk (show (((w.alloc (.cells (jn nb) 63)).alloc (.cells (node 0 true) 44)).alloc (.cells (jv k b n t A ns.length c B is.length d) 25)).heap[w.heap.size + 1]? = some _ from box_keep (box_at (by simp)) _)
  have HV := Sd.mk (show (((w.alloc (.cells (jn nb) 63)).alloc (.cells (node 0 true) 44)).alloc (.cells (jv k b n t A ns.length c B is.length d) 25)).heap[w.heap.size + 1 + 1]? = some _ from box_at (by simp))
  unfold node at *
  go_enter Tryz.func37, Tryz.ntmps37
  go_wp2_with (first
    | (go_at_call 34; refine (bounded_c _ _ _ _).mono ?_; rintro e w' ⟨rfl, he⟩; have HW := Sd.mk (HW.out.trans he); clear he; have f6 := box_cell (box_ext HJ.out HW.out); have f7 := box_cell (box_ext HN.out HW.out); have f8 := box_cell (box_ext HV.out HW.out))
    | (go_at_call 70; refine (jtwins_c is OK.out CN.out _ _ _ hl (H.out.ext (HE0.out.trans HW.out))).mono ?_; rintro e w' ⟨⟨x, y, rfl, hxy⟩, he⟩; have HW := Sd.mk (HW.out.trans he); have d0 : decide (0 ≤ x) = true := (by simpa using hxy.2 HT.out); clear he hxy; have f6 := box_cell (box_ext HJ.out HW.out); have f7 := box_cell (box_ext HN.out HW.out); have f8 := box_cell (box_ext HV.out HW.out))
    | fail)
  clear f6 f7 f8
  have HJ1 := Sd.mk (box_ext HJ.out HW.out)
  have HN1 := Sd.mk (show _ = some (.cells (node 0 true) 44 (0, 0)) from box_ext HN.out HW.out)
  have HV1 := Sd.mk (box_ext HV.out HW.out)
  have HW1 := Sd.mk (HE0.out.trans HW.out)
  clear HJ HN HV HW HE0
  go_loopg [12, 15] is.length (fun g v12 v15 wr => ∃ (j : Nat), v12 = .bool false ∧ v15 = .int .i64 j ∧ g + j = is.length ∧ Sd (Ext w wr) ∧
    Sd (wr.heap[w.heap.size]? = some (.cells (jn nb) 63 (0, 0))) ∧ Sd (wr.heap[w.heap.size + 1]? = some (.cells (node 0 true) 44 (0, 0))) ∧ Sd (wr.heap[w.heap.size + 1 + 1]? = some (.cells (jv k b n t A ns.length c B is.length d) 25 (0, 0))))
  case atStart => exact ⟨0, rfl, rfl, by simp, HW1, HJ1, HN1, HV1⟩
  case round =>
    clear HJ1 HN1 HV1 HW1
    obtain ⟨j, rfl, rfl, hg, HE, HJ, HN, HV⟩ := hrel
    have f6 := box_cell HJ.out
    have f7 := box_cell HN.out
    have f8 := box_cell HV.out
    unfold node at f7
    by_cases hj : j < is.length
    · obtain ⟨ai, Ai, ci, Di, di, rfl, x0, x1, x2, x3, x4, x5, hAt⟩ := (H.out.ext HE.out).elem j hj
      clear hAt
      have c4 : wr.cell? ⟨M, j, none⟩ = some (.bool false) := by
        have := box_cell (box_ext HM.out HE.out) j
        rw [this]; exact HCS.out j hj
      have HST : Sd (cs.setIfInBounds j (.bool false) = cs) := ⟨by
        have h1 := HCS.out j hj
        have hjl := (Array.getElem?_eq_some_iff.1 h1).1
        apply Array.ext_getElem?
        intro i
        rw [Array.getElem?_setIfInBounds]
        split
        · rename_i e; subst e; rw [h1]; (try simp [hjl])
        · rfl⟩
      go_wp2_with fail
      clear f6 f7 f8
      refine wp_region_held_drew (S := fun W => Ext wr W) (by kernel_rfl) ((Ext.refl _).drewN 1) (fun hHeld => ?_)
      refine wpAnyH_take (i := 0) (oi := { dst := some 49, op := Op.move (Operand.tmp 0), type := 3, pos := "json_values.go:591", after := #[], guard := none }) (v := ?_) rfl (by kernel_rfl) (by kernel_rfl) (by kernel_rfl) (fun _ _ _ h => h) (Or.inl ⟨by rfl, ?_⟩) (by assumption) ?_
      rotate_left
      · (intro W hSw; have g6 := box_cell (box_ext HJ.out hSw); have g8 := box_cell (box_ext HV.out hSw); have y0 := hSw.cell x0; have y1 := hSw.cell x1; have y2 := hSw.cell x2; have y3 := hSw.cell x3; have y4 := hSw.cell x4; have y5 := hSw.cell x5; go_simp; (try with_reducible rfl))
      (try simp only [Act.put, List.setIfInBounds_toArray, List.set_cons_zero, List.set_cons_succ])
      refine wpAnyH_take (i := 1) (oi := { dst := some 50, op := Op.load 63 (Operand.tmp 6), type := 63, pos := "json_values.go:591", after := #[], guard := none }) (v := ?_) rfl (by kernel_rfl) (by kernel_rfl) (by kernel_rfl) (fun _ _ _ h => h) (Or.inl ⟨by rfl, ?_⟩) (by assumption) ?_
      rotate_left
      · (intro W hSw; have g6 := box_cell (box_ext HJ.out hSw); have g8 := box_cell (box_ext HV.out hSw); have y0 := hSw.cell x0; have y1 := hSw.cell x1; have y2 := hSw.cell x2; have y3 := hSw.cell x3; have y4 := hSw.cell x4; have y5 := hSw.cell x5; go_simp; (try with_reducible rfl))
      (try simp only [Act.put, List.setIfInBounds_toArray, List.set_cons_zero, List.set_cons_succ])
      refine wpAnyH_take (i := 2) (oi := { dst := some 51, op := Op.load 44 (Operand.tmp 7), type := 44, pos := "json_values.go:591", after := #[], guard := none }) rfl (by kernel_rfl) (by kernel_rfl) (by kernel_rfl) (fun _ _ _ h => h) (yieldsIf_load_row (by rfl) 44 _ rfl (w.heap.size + 1) rfl 44 (node 0 true) (0, 0) _ (fun W hSw => box_ext HN.out hSw) Tryz.underlying44 rfl s44) (by assumption) ?_
      (try simp only [Act.put, List.setIfInBounds_toArray, List.set_cons_zero, List.set_cons_succ])
      refine wpAnyH_take (i := 3) (oi := { dst := some 52, op := Op.move (Operand.tmp 15), type := 3, pos := "json_values.go:591", after := #[], guard := none }) (v := ?_) rfl (by kernel_rfl) (by kernel_rfl) (by kernel_rfl) (fun _ _ _ h => h) (Or.inl ⟨by rfl, ?_⟩) (by assumption) ?_
      rotate_left
      · (intro W hSw; have g6 := box_cell (box_ext HJ.out hSw); have g8 := box_cell (box_ext HV.out hSw); have y0 := hSw.cell x0; have y1 := hSw.cell x1; have y2 := hSw.cell x2; have y3 := hSw.cell x3; have y4 := hSw.cell x4; have y5 := hSw.cell x5; go_simp; (try with_reducible rfl))
      (try simp only [Act.put, List.setIfInBounds_toArray, List.set_cons_zero, List.set_cons_succ])
      refine wpAnyH_take (i := 4) (oi := { dst := some 53, op := Op.fieldAddr 25 (Operand.tmp 8) 5, type := 0, pos := "json_values.go:591", after := #[], guard := none }) (v := ?_) rfl (by kernel_rfl) (by kernel_rfl) (by kernel_rfl) (fun _ _ _ h => h) (Or.inl ⟨by rfl, ?_⟩) (by assumption) ?_
      rotate_left
      · (intro W hSw; have g6 := box_cell (box_ext HJ.out hSw); have g8 := box_cell (box_ext HV.out hSw); have y0 := hSw.cell x0; have y1 := hSw.cell x1; have y2 := hSw.cell x2; have y3 := hSw.cell x3; have y4 := hSw.cell x4; have y5 := hSw.cell x5; go_simp; (try with_reducible rfl))
      (try simp only [Act.put, List.setIfInBounds_toArray, List.set_cons_zero, List.set_cons_succ])
      refine wpAnyH_take (i := 5) (oi := { dst := some 54, op := Op.load 23 (Operand.tmp 53), type := 23, pos := "json_values.go:591", after := #[{ on := 4, ground := Ground.data }], guard := none }) (v := ?_) rfl (by kernel_rfl) (by kernel_rfl) (by kernel_rfl) (fun _ _ _ h => h) (Or.inl ⟨by rfl, ?_⟩) (by assumption) ?_
      rotate_left
      · (intro W hSw; have g6 := box_cell (box_ext HJ.out hSw); have g8 := box_cell (box_ext HV.out hSw); have y0 := hSw.cell x0; have y1 := hSw.cell x1; have y2 := hSw.cell x2; have y3 := hSw.cell x3; have y4 := hSw.cell x4; have y5 := hSw.cell x5; go_simp; (try with_reducible rfl))
      (try simp only [Act.put, List.setIfInBounds_toArray, List.set_cons_zero, List.set_cons_succ])
      refine wpAnyH_take (i := 6) (oi := { dst := some 55, op := Op.move (Operand.tmp 15), type := 3, pos := "json_values.go:591", after := #[], guard := none }) (v := ?_) rfl (by kernel_rfl) (by kernel_rfl) (by kernel_rfl) (fun _ _ _ h => h) (Or.inl ⟨by rfl, ?_⟩) (by assumption) ?_
      rotate_left
      · (intro W hSw; have g6 := box_cell (box_ext HJ.out hSw); have g8 := box_cell (box_ext HV.out hSw); have y0 := hSw.cell x0; have y1 := hSw.cell x1; have y2 := hSw.cell x2; have y3 := hSw.cell x3; have y4 := hSw.cell x4; have y5 := hSw.cell x5; go_simp; (try with_reducible rfl))
      (try simp only [Act.put, List.setIfInBounds_toArray, List.set_cons_zero, List.set_cons_succ])
      refine wpAnyH_take (i := 7) (oi := { dst := some 56, op := Op.indexAddr 23 (Operand.tmp 54) (Operand.tmp 55), type := 0, pos := "json_values.go:591", after := #[{ on := 5, ground := Ground.data }, { on := 6, ground := Ground.data }], guard := none }) (v := ?_) rfl (by kernel_rfl) (by kernel_rfl) (by kernel_rfl) (fun _ _ _ h => h) (Or.inl ⟨by rfl, ?_⟩) (by assumption) ?_
      rotate_left
      · (intro W hSw; have g6 := box_cell (box_ext HJ.out hSw); have g8 := box_cell (box_ext HV.out hSw); have y0 := hSw.cell x0; have y1 := hSw.cell x1; have y2 := hSw.cell x2; have y3 := hSw.cell x3; have y4 := hSw.cell x4; have y5 := hSw.cell x5; go_simp; (try with_reducible rfl))
      (try simp only [Act.put, List.setIfInBounds_toArray, List.set_cons_zero, List.set_cons_succ])
      refine wpAnyH_take (i := 8) (oi := { dst := some 57, op := Op.load 25 (Operand.tmp 56), type := 25, pos := "json_values.go:591", after := #[{ on := 7, ground := Ground.data }], guard := none }) (v := ?_) rfl (by kernel_rfl) (by kernel_rfl) (by kernel_rfl) (fun _ _ _ h => h) (Or.inl ⟨by rfl, ?_⟩) (by assumption) ?_
      rotate_left
      · (intro W hSw; have g6 := box_cell (box_ext HJ.out hSw); have g8 := box_cell (box_ext HV.out hSw); have y0 := hSw.cell x0; have y1 := hSw.cell x1; have y2 := hSw.cell x2; have y3 := hSw.cell x3; have y4 := hSw.cell x4; have y5 := hSw.cell x5; go_simp; (try with_reducible rfl))
      (try simp only [Act.put, List.setIfInBounds_toArray, List.set_cons_zero, List.set_cons_succ])
      refine wpAnyH_ready (rs := [9]) (by kernel_rfl) (by simp) ?_
      refine AllReadyH.cons (o := { dst := some 58, op := Op.call { callee := Callee.value (Operand.func 71), args := #[Operand.tmp 49, Operand.tmp 50, Operand.tmp 51, Operand.tmp 52, Operand.tmp 57], argTypes := #[3, 63, 44, 3, 25] }, type := 145, pos := "json_values.go:591", after := #[{ on := 0, ground := Ground.data }, { on := 1, ground := Ground.data }, { on := 2, ground := Ground.data }, { on := 3, ground := Ground.data }, { on := 8, ground := Ground.data }], guard := none }) rfl (fun K hK => ?_) AllReadyH.nil
      go_simp
      go_at_call 71; refine (element_c _ _ _ _ _ (by omega)).mono ?_; rintro e w' ⟨rfl, he⟩; (try simp only []); have hX : Ext wr w' := hHeld.trans he
      refine hK.out _ _ hX (fun hHeld => ?_)
      clear hK K
      (try simp only [Act.put, List.setIfInBounds_toArray, List.set_cons_zero, List.set_cons_succ])
      refine wpAnyH_take (i := 10) (oi := { dst := some 48, op := Op.move (Operand.tmp 58), type := 145, pos := "json_values.go:591", after := #[{ on := 9, ground := Ground.data }], guard := none }) (v := ?_) rfl (by kernel_rfl) (by kernel_rfl) (by kernel_rfl) (fun _ _ _ h => h) (Or.inl ⟨by rfl, ?_⟩) (by assumption) ?_
      rotate_left
      · (intro W hSw; have g6 := box_cell (box_ext HJ.out hSw); have g8 := box_cell (box_ext HV.out hSw); have y0 := hSw.cell x0; have y1 := hSw.cell x1; have y2 := hSw.cell x2; have y3 := hSw.cell x3; have y4 := hSw.cell x4; have y5 := hSw.cell x5; go_simp; (try with_reducible rfl))
      (try simp only [Act.put, List.setIfInBounds_toArray, List.set_cons_zero, List.set_cons_succ])
      refine wpAnyH_take (i := 11) (oi := { dst := some 59, op := Op.extract (Operand.tmp 48) 0, type := 4, pos := "json_values.go:591", after := #[{ on := 10, ground := Ground.data }], guard := none }) (v := ?_) rfl (by kernel_rfl) (by kernel_rfl) (by kernel_rfl) (fun _ _ _ h => h) (Or.inl ⟨by rfl, ?_⟩) (by assumption) ?_
      rotate_left
      · (intro W hSw; have g6 := box_cell (box_ext HJ.out hSw); have g8 := box_cell (box_ext HV.out hSw); have y0 := hSw.cell x0; have y1 := hSw.cell x1; have y2 := hSw.cell x2; have y3 := hSw.cell x3; have y4 := hSw.cell x4; have y5 := hSw.cell x5; go_simp; (try with_reducible rfl))
      (try simp only [Act.put, List.setIfInBounds_toArray, List.set_cons_zero, List.set_cons_succ])
      refine wpAnyH_take (i := 12) (oi := { dst := some 60, op := Op.extract (Operand.tmp 48) 1, type := 4, pos := "json_values.go:591", after := #[{ on := 10, ground := Ground.data }, { on := 13, ground := Ground.gcOnly Departure.lateStores }], guard := none }) (v := ?_) rfl (by kernel_rfl) (by kernel_rfl) (by kernel_rfl) (fun _ _ _ h => h) (Or.inl ⟨by rfl, ?_⟩) (by assumption) ?_
      rotate_left
      · (intro W hSw; have g6 := box_cell (box_ext HJ.out hSw); have g8 := box_cell (box_ext HV.out hSw); have y0 := hSw.cell x0; have y1 := hSw.cell x1; have y2 := hSw.cell x2; have y3 := hSw.cell x3; have y4 := hSw.cell x4; have y5 := hSw.cell x5; go_simp; (try with_reducible rfl))
      (try simp only [Act.put, List.setIfInBounds_toArray, List.set_cons_zero, List.set_cons_succ])
      refine wpAnyH_take (i := 13) (oi := { dst := some 16, op := Op.assign (Operand.tmp 59), type := 4, pos := "json_values.go:591", after := #[{ on := 11, ground := Ground.data }, { on := 9, ground := Ground.chain }, { on := 0, ground := Ground.phase }, { on := 1, ground := Ground.phase }, { on := 2, ground := Ground.phase }, { on := 3, ground := Ground.phase }, { on := 4, ground := Ground.phase }, { on := 5, ground := Ground.phase }, { on := 6, ground := Ground.phase }, { on := 7, ground := Ground.phase }, { on := 8, ground := Ground.phase }, { on := 9, ground := Ground.phase }, { on := 10, ground := Ground.phase }, { on := 11, ground := Ground.phase }, { on := 12, ground := Ground.textOnly Departure.lateStores }], guard := none }) (v := ?_) rfl (by kernel_rfl) (by kernel_rfl) (by kernel_rfl) (fun _ _ _ h => h) (Or.inl ⟨by rfl, ?_⟩) (by assumption) ?_
      rotate_left
      · (intro W hSw; have g6 := box_cell (box_ext HJ.out hSw); have g8 := box_cell (box_ext HV.out hSw); have y0 := hSw.cell x0; have y1 := hSw.cell x1; have y2 := hSw.cell x2; have y3 := hSw.cell x3; have y4 := hSw.cell x4; have y5 := hSw.cell x5; go_simp; (try with_reducible rfl))
      (try simp only [Act.put, List.setIfInBounds_toArray, List.set_cons_zero, List.set_cons_succ])
      refine wpAnyH_take (i := 14) (oi := { dst := some 17, op := Op.assign (Operand.tmp 60), type := 4, pos := "json_values.go:591", after := #[{ on := 12, ground := Ground.data }, { on := 13, ground := Ground.chain }, { on := 0, ground := Ground.phase }, { on := 1, ground := Ground.phase }, { on := 2, ground := Ground.phase }, { on := 3, ground := Ground.phase }, { on := 4, ground := Ground.phase }, { on := 5, ground := Ground.phase }, { on := 6, ground := Ground.phase }, { on := 7, ground := Ground.phase }, { on := 8, ground := Ground.phase }, { on := 9, ground := Ground.phase }, { on := 10, ground := Ground.phase }, { on := 11, ground := Ground.phase }, { on := 12, ground := Ground.phase }, { on := 13, ground := Ground.phase }], guard := none }) (v := ?_) rfl (by kernel_rfl) (by kernel_rfl) (by kernel_rfl) (fun _ _ _ h => h) (Or.inl ⟨by rfl, ?_⟩) (by assumption) ?_
      rotate_left
      · (intro W hSw; have g6 := box_cell (box_ext HJ.out hSw); have g8 := box_cell (box_ext HV.out hSw); have y0 := hSw.cell x0; have y1 := hSw.cell x1; have y2 := hSw.cell x2; have y3 := hSw.cell x3; have y4 := hSw.cell x4; have y5 := hSw.cell x5; go_simp; (try with_reducible rfl))
      (try simp only [Act.put, List.setIfInBounds_toArray, List.set_cons_zero, List.set_cons_succ])
      refine wpAnyH_done (by kernel_rfl) ?_ _
      have HX := Sd.mk hHeld
      have c5 := hHeld.cell c4
      have c6 := box_frozen (box_ext HM.out (HE.out.trans hHeld)) j
      clear hHeld x0 x1 x2 x3 x4 x5 c4
      go_wp2_with fail
      go_roundg (is.length - (j + 1))
      case measure => omega
      case rel =>
        have hm := box_ext HM.out (HE.out.trans HX.out)
        refine ⟨j + 1, rfl, by go_num, by omega, ⟨(HE.out.trans HX.out).stay hm HST.out⟩, ⟨?_⟩, ⟨?_⟩, ⟨?_⟩⟩
        · exact box_ext HJ.out (HX.out.stay hm HST.out)
        · exact box_ext HN.out (HX.out.stay hm HST.out)
        · exact box_ext HV.out (HX.out.stay hm HST.out)
    · go_wp2_with fail
      refine wp_loop_rounds 1 ?_
      rw [rounds_succ]
      rcases Nat.eq_zero_or_pos is.length with hz | hz
      all_goals
        go_wp2_with fail
        refine wp_loop_rounds 1 ?_
        rw [rounds_succ]
        go_wp2_with fail
        go_ret
        exact ⟨rfl, HE.out⟩

end Go.Proofs.YtgkjdgolffnagaaGreatDoor
