/- Parts of the proof of the statement that this folder hands in: lemmas and contracts (Kj). -/
import Derived.Test.YtgkjdgolffnagaaGreatDoorKhMg
set_option linter.unusedSimpArgs false
set_option linter.unusedVariables false
namespace Go.Proofs.YtgkjdgolffnagaaGreatDoor
open Go.RowKit

set_option maxHeartbeats 0 in
set_option maxRecDepth 100000 in
theorem jobject_c (nb : Nat) (k : Int) (b : Bool) (n : Int) (t : ByteArray) (ns : List ByteArray) (is : List JV) (hni : ns.length = is.length) (A : Option Addr) (c : Nat) (B : Option Addr) (d : Nat) (w : World)
    (hl : is.length ≤ 1048576) (hS : Strs w A ns) (h : JV.All w B 0 is) (m : Value) :
    Calls Tryz.prog 38 #[.int .i64 2020, .agg (jn nb), .agg (node 0 true), .agg (jv k b n t A ns.length c B is.length d), m] w fun e w' => e = .returned (.bool true) ∧ Ext w w' := by
  have H := Sd.mk h
  have HS := Sd.mk hS
  have HNI := Sd.mk hni
  clear h hS hni
  have HE0 := Sd.mk ((((Ext.refl w).alloc (.cells (jn nb) 63)).alloc (.cells (node 0 true) 44)).alloc (.cells (jv k b n t A ns.length c B is.length d) 25))
  have HW := Sd.mk (Ext.refl (((w.alloc (.cells (jn nb) 63)).alloc (.cells (node 0 true) 44)).alloc (.cells (jv k b n t A ns.length c B is.length d) 25)))
  have HJ := Sd.mk (show (((w.alloc (.cells (jn nb) 63)).alloc (.cells (node 0 true) 44)).alloc (.cells (jv k b n t A ns.length c B is.length d) 25)).heap[w.heap.size]? = some _ from box_keep (box_keep (box_alloc w _) _) _)
  have HN := Sd.mk (show (((w.alloc (.cells (jn nb) 63)).alloc (.cells (node 0 true) 44)).alloc (.cells (jv k b n t A ns.length c B is.length d) 25)).heap[w.heap.size + 1]? = some _ from box_keep (box_at (by simp)) _)
  have HV := Sd.mk (show (((w.alloc (.cells (jn nb) 63)).alloc (.cells (node 0 true) 44)).alloc (.cells (jv k b n t A ns.length c B is.length d) 25)).heap[w.heap.size + 1 + 1]? = some _ from box_at (by simp))
  unfold node at *
  go_enter Tryz.func38, Tryz.ntmps38
  go_wp2_with (first
    | (refine wpList_load_row_g (by rfl) 44 _ rfl (w.heap.size + 1) rfl 44 _ (0, 0) _ (box_ext HN.out HW.out) Tryz.underlying44 rfl s44 ?_)
    | (go_at_call 73; refine (members_c _ _ _ _ _ _ _ _ _ _ _ (HS.out.ext (HE0.out.trans HW.out))).mono ?_; rintro e w' ⟨v, rfl, hown, he⟩; have HW := Sd.mk (HW.out.trans he); obtain ⟨MA, mcap, rfl, hmc1, hnat⟩ := nats_of hown; have HM := Sd.mk hnat; clear he hown hnat hmc1; have f6 := box_cell (box_ext HJ.out HW.out); have f7 := box_cell (box_ext HN.out HW.out); have f8 := box_cell (box_ext HV.out HW.out))
    | (go_at_call 34; refine (bounded_c _ _ _ _).mono ?_; rintro e w' ⟨rfl, he⟩; have HW := Sd.mk (HW.out.trans he); have HM := Sd.mk (HM.out.ext he); clear he; have f6 := box_cell (box_ext HJ.out HW.out); have f7 := box_cell (box_ext HN.out HW.out); have f8 := box_cell (box_ext HV.out HW.out))
    | (go_at_call 74; refine (needs_c _ _ _ _ _ _ _ _ _ _ _ _).mono ?_; rintro e w' ⟨rfl, he⟩; have HW := Sd.mk (HW.out.trans he); have HM := Sd.mk (HM.out.ext he); clear he; have f6 := box_cell (box_ext HJ.out HW.out); have f7 := box_cell (box_ext HN.out HW.out); have f8 := box_cell (box_ext HV.out HW.out))
    | fail)
  clear f6 f7 f8
  have HJ1 := Sd.mk (box_ext HJ.out HW.out)
  have HN1 := Sd.mk (show _ = some (.cells (node 0 true) 44 (0, 0)) from box_ext HN.out HW.out)
  have HV1 := Sd.mk (box_ext HV.out HW.out)
  have HW1 := Sd.mk (HE0.out.trans HW.out)
  clear HJ HN HV HW HE0
  have hql := Sd.mk (fun (j : Nat) (hj : j < (memsTo ns ns.length).length) => (mem_memsTo.1 (List.getElem_mem hj)).1)
  have hml := Sd.mk (memsTo_le ns ns.length)
  generalize memsTo ns ns.length = ml at *
  go_loopg [12, 13] ml.length (fun g v12 v13 wr => ∃ (j : Nat), v12 = .bool true ∧ v13 = .int .i64 j ∧ g + j = ml.length ∧ Sd (Ext w wr) ∧ Sd (Nats wr MA ml) ∧
    Sd (wr.heap[w.heap.size]? = some (.cells (jn nb) 63 (0, 0))) ∧ Sd (wr.heap[w.heap.size + 1]? = some (.cells (node 0 true) 44 (0, 0))) ∧ Sd (wr.heap[w.heap.size + 1 + 1]? = some (.cells (jv k b n t A ns.length c B is.length d) 25 (0, 0))))
  case atStart => exact ⟨0, rfl, rfl, by simp, HW1, HM, HJ1, HN1, HV1⟩
  case round =>
    clear HJ1 HN1 HV1 HW1 HM
    obtain ⟨j, rfl, rfl, hg, HE, HM, HJ, HN, HV⟩ := hrel
    have f6 := box_cell HJ.out
    have f7 := box_cell HN.out
    have f8 := box_cell HV.out
    unfold node at f7
    have hmx := hml.out
    have hll : ml.length ≤ 1048576 := by have := HS.out.1; omega
    by_cases hj : j < ml.length
    · obtain ⟨mad, rfl, hmc⟩ := HM.out j hj
      have hq := hql.out j hj
      have hqi : ml[j] < is.length := by have := HNI.out; omega
      obtain ⟨sad, rfl, hsc, hss⟩ := (HS.out.ext HE.out).2 ml[j] hq
      generalize hqq : ml[j] = q at *
      have hnl := HS.out.1
      clear hqq
      go_upto_region 6 with (fail)
      go_cut [14] from 42 to 49 (fun v14 wx => v14 = .string ns[q] ∧ Sd (Ext wr wx))
      case first =>
        go_quiet (fail)
        go_wp2_with fail
        go_meet
        exact ⟨rfl, ⟨(Ext.refl _).drewN _⟩⟩
      case rest =>
        obtain ⟨rfl, HX⟩ := hcut
        have hmc := HX.out.cell hmc
        have HJ := Sd.mk (box_ext HJ.out HX.out)
        have HN := Sd.mk (box_ext HN.out HX.out)
        have HV := Sd.mk (box_ext HV.out HX.out)
        have HE := Sd.mk (HE.out.trans HX.out)
        have HM := Sd.mk (HM.out.ext HX.out)
        clear f6 f7 f8 hsc
        have f7 := box_cell HN.out
        unfold node at f7
        obtain ⟨ai, Ai, ci, Di, di, rfl, x0, x1, x2, x3, x4, x5, hAt⟩ := (H.out.ext HE.out).elem q hqi
        clear hAt
        go_wp2_with fail
        clear f7
        refine wp_region_held_drew (S := fun W => Ext wc W) (by kernel_rfl) ((Ext.refl _).drewN 1) (fun hHeld => ?_)
        refine wpAnyH_take (i := 0) (oi := { dst := some 68, op := Op.move (Operand.tmp 0), type := 3, pos := "json_values.go:671", after := #[], guard := none }) (v := ?_) rfl (by kernel_rfl) (by kernel_rfl) (by kernel_rfl) (fun _ _ _ h => h) (Or.inl ⟨by rfl, ?_⟩) (by assumption) ?_
        rotate_left
        · (intro W hSw; have g6 := box_cell (box_ext HJ.out hSw); have g8 := box_cell (box_ext HV.out hSw); have gm := hSw.cell hmc; have y0 := hSw.cell x0; have y1 := hSw.cell x1; have y2 := hSw.cell x2; have y3 := hSw.cell x3; have y4 := hSw.cell x4; have y5 := hSw.cell x5; go_simp; (try with_reducible rfl))
        (try simp only [Act.put, List.setIfInBounds_toArray, List.set_cons_zero, List.set_cons_succ])
        refine wpAnyH_take (i := 1) (oi := { dst := some 69, op := Op.load 63 (Operand.tmp 6), type := 63, pos := "json_values.go:671", after := #[], guard := none }) (v := ?_) rfl (by kernel_rfl) (by kernel_rfl) (by kernel_rfl) (fun _ _ _ h => h) (Or.inl ⟨by rfl, ?_⟩) (by assumption) ?_
        rotate_left
        · (intro W hSw; have g6 := box_cell (box_ext HJ.out hSw); have g8 := box_cell (box_ext HV.out hSw); have gm := hSw.cell hmc; have y0 := hSw.cell x0; have y1 := hSw.cell x1; have y2 := hSw.cell x2; have y3 := hSw.cell x3; have y4 := hSw.cell x4; have y5 := hSw.cell x5; go_simp; (try with_reducible rfl))
        (try simp only [Act.put, List.setIfInBounds_toArray, List.set_cons_zero, List.set_cons_succ])
        refine wpAnyH_take (i := 2) (oi := { dst := some 70, op := Op.load 44 (Operand.tmp 7), type := 44, pos := "json_values.go:671", after := #[], guard := none }) rfl (by kernel_rfl) (by kernel_rfl) (by kernel_rfl) (fun _ _ _ h => h) (yieldsIf_load_row (by rfl) 44 _ rfl (w.heap.size + 1) rfl 44 (node 0 true) (0, 0) _ (fun W hSw => box_ext HN.out hSw) Tryz.underlying44 rfl s44) (by assumption) ?_
        (try simp only [Act.put, List.setIfInBounds_toArray, List.set_cons_zero, List.set_cons_succ])
        refine wpAnyH_take (i := 3) (oi := { dst := some 71, op := Op.move (Operand.tmp 14), type := 9, pos := "json_values.go:671", after := #[], guard := none }) (v := ?_) rfl (by kernel_rfl) (by kernel_rfl) (by kernel_rfl) (fun _ _ _ h => h) (Or.inl ⟨by rfl, ?_⟩) (by assumption) ?_
        rotate_left
        · (intro W hSw; have g6 := box_cell (box_ext HJ.out hSw); have g8 := box_cell (box_ext HV.out hSw); have gm := hSw.cell hmc; have y0 := hSw.cell x0; have y1 := hSw.cell x1; have y2 := hSw.cell x2; have y3 := hSw.cell x3; have y4 := hSw.cell x4; have y5 := hSw.cell x5; go_simp; (try with_reducible rfl))
        (try simp only [Act.put, List.setIfInBounds_toArray, List.set_cons_zero, List.set_cons_succ])
        refine wpAnyH_take (i := 4) (oi := { dst := some 72, op := Op.fieldAddr 25 (Operand.tmp 8) 5, type := 0, pos := "json_values.go:671", after := #[], guard := none }) (v := ?_) rfl (by kernel_rfl) (by kernel_rfl) (by kernel_rfl) (fun _ _ _ h => h) (Or.inl ⟨by rfl, ?_⟩) (by assumption) ?_
        rotate_left
        · (intro W hSw; have g6 := box_cell (box_ext HJ.out hSw); have g8 := box_cell (box_ext HV.out hSw); have gm := hSw.cell hmc; have y0 := hSw.cell x0; have y1 := hSw.cell x1; have y2 := hSw.cell x2; have y3 := hSw.cell x3; have y4 := hSw.cell x4; have y5 := hSw.cell x5; go_simp; (try with_reducible rfl))
        (try simp only [Act.put, List.setIfInBounds_toArray, List.set_cons_zero, List.set_cons_succ])
        refine wpAnyH_take (i := 5) (oi := { dst := some 73, op := Op.load 23 (Operand.tmp 72), type := 23, pos := "json_values.go:671", after := #[{ on := 4, ground := Ground.data }], guard := none }) (v := ?_) rfl (by kernel_rfl) (by kernel_rfl) (by kernel_rfl) (fun _ _ _ h => h) (Or.inl ⟨by rfl, ?_⟩) (by assumption) ?_
        rotate_left
        · (intro W hSw; have g6 := box_cell (box_ext HJ.out hSw); have g8 := box_cell (box_ext HV.out hSw); have gm := hSw.cell hmc; have y0 := hSw.cell x0; have y1 := hSw.cell x1; have y2 := hSw.cell x2; have y3 := hSw.cell x3; have y4 := hSw.cell x4; have y5 := hSw.cell x5; go_simp; (try with_reducible rfl))
        (try simp only [Act.put, List.setIfInBounds_toArray, List.set_cons_zero, List.set_cons_succ])
        refine wpAnyH_take (i := 6) (oi := { dst := some 74, op := Op.move (Operand.tmp 11), type := 32, pos := "json_values.go:671", after := #[], guard := none }) (v := ?_) rfl (by kernel_rfl) (by kernel_rfl) (by kernel_rfl) (fun _ _ _ h => h) (Or.inl ⟨by rfl, ?_⟩) (by assumption) ?_
        rotate_left
        · (intro W hSw; have g6 := box_cell (box_ext HJ.out hSw); have g8 := box_cell (box_ext HV.out hSw); have gm := hSw.cell hmc; have y0 := hSw.cell x0; have y1 := hSw.cell x1; have y2 := hSw.cell x2; have y3 := hSw.cell x3; have y4 := hSw.cell x4; have y5 := hSw.cell x5; go_simp; (try with_reducible rfl))
        (try simp only [Act.put, List.setIfInBounds_toArray, List.set_cons_zero, List.set_cons_succ])
        refine wpAnyH_take (i := 7) (oi := { dst := some 75, op := Op.move (Operand.tmp 13), type := 3, pos := "json_values.go:671", after := #[], guard := none }) (v := ?_) rfl (by kernel_rfl) (by kernel_rfl) (by kernel_rfl) (fun _ _ _ h => h) (Or.inl ⟨by rfl, ?_⟩) (by assumption) ?_
        rotate_left
        · (intro W hSw; have g6 := box_cell (box_ext HJ.out hSw); have g8 := box_cell (box_ext HV.out hSw); have gm := hSw.cell hmc; have y0 := hSw.cell x0; have y1 := hSw.cell x1; have y2 := hSw.cell x2; have y3 := hSw.cell x3; have y4 := hSw.cell x4; have y5 := hSw.cell x5; go_simp; (try with_reducible rfl))
        (try simp only [Act.put, List.setIfInBounds_toArray, List.set_cons_zero, List.set_cons_succ])
        refine wpAnyH_take (i := 8) (oi := { dst := some 76, op := Op.indexAddr 32 (Operand.tmp 74) (Operand.tmp 75), type := 0, pos := "json_values.go:671", after := #[{ on := 6, ground := Ground.data }, { on := 7, ground := Ground.data }], guard := none }) (v := ?_) rfl (by kernel_rfl) (by kernel_rfl) (by kernel_rfl) (fun _ _ _ h => h) (Or.inl ⟨by rfl, ?_⟩) (by assumption) ?_
        rotate_left
        · (intro W hSw; have g6 := box_cell (box_ext HJ.out hSw); have g8 := box_cell (box_ext HV.out hSw); have gm := hSw.cell hmc; have y0 := hSw.cell x0; have y1 := hSw.cell x1; have y2 := hSw.cell x2; have y3 := hSw.cell x3; have y4 := hSw.cell x4; have y5 := hSw.cell x5; go_simp; (try with_reducible rfl))
        (try simp only [Act.put, List.setIfInBounds_toArray, List.set_cons_zero, List.set_cons_succ])
        refine wpAnyH_take (i := 9) (oi := { dst := some 77, op := Op.load 3 (Operand.tmp 76), type := 3, pos := "json_values.go:671", after := #[{ on := 8, ground := Ground.data }], guard := none }) (v := ?_) rfl (by kernel_rfl) (by kernel_rfl) (by kernel_rfl) (fun _ _ _ h => h) (Or.inl ⟨by rfl, ?_⟩) (by assumption) ?_
        rotate_left
        · (intro W hSw; have g6 := box_cell (box_ext HJ.out hSw); have g8 := box_cell (box_ext HV.out hSw); have gm := hSw.cell hmc; have y0 := hSw.cell x0; have y1 := hSw.cell x1; have y2 := hSw.cell x2; have y3 := hSw.cell x3; have y4 := hSw.cell x4; have y5 := hSw.cell x5; go_simp; (try with_reducible rfl))
        (try simp only [Act.put, List.setIfInBounds_toArray, List.set_cons_zero, List.set_cons_succ])
        refine wpAnyH_take (i := 10) (oi := { dst := some 78, op := Op.indexAddr 23 (Operand.tmp 73) (Operand.tmp 77), type := 0, pos := "json_values.go:671", after := #[{ on := 5, ground := Ground.data }, { on := 9, ground := Ground.data }], guard := none }) (v := ?_) rfl (by kernel_rfl) (by kernel_rfl) (by kernel_rfl) (fun _ _ _ h => h) (Or.inl ⟨by rfl, ?_⟩) (by assumption) ?_
        rotate_left
        · (intro W hSw; have g6 := box_cell (box_ext HJ.out hSw); have g8 := box_cell (box_ext HV.out hSw); have gm := hSw.cell hmc; have y0 := hSw.cell x0; have y1 := hSw.cell x1; have y2 := hSw.cell x2; have y3 := hSw.cell x3; have y4 := hSw.cell x4; have y5 := hSw.cell x5; go_simp; (try with_reducible rfl))
        (try simp only [Act.put, List.setIfInBounds_toArray, List.set_cons_zero, List.set_cons_succ])
        refine wpAnyH_take (i := 11) (oi := { dst := some 79, op := Op.load 25 (Operand.tmp 78), type := 25, pos := "json_values.go:671", after := #[{ on := 10, ground := Ground.data }], guard := none }) (v := ?_) rfl (by kernel_rfl) (by kernel_rfl) (by kernel_rfl) (fun _ _ _ h => h) (Or.inl ⟨by rfl, ?_⟩) (by assumption) ?_
        rotate_left
        · (intro W hSw; have g6 := box_cell (box_ext HJ.out hSw); have g8 := box_cell (box_ext HV.out hSw); have gm := hSw.cell hmc; have y0 := hSw.cell x0; have y1 := hSw.cell x1; have y2 := hSw.cell x2; have y3 := hSw.cell x3; have y4 := hSw.cell x4; have y5 := hSw.cell x5; go_simp; (try with_reducible rfl))
        (try simp only [Act.put, List.setIfInBounds_toArray, List.set_cons_zero, List.set_cons_succ])
        refine wpAnyH_ready (rs := [12]) (by kernel_rfl) (by simp) ?_
        refine AllReadyH.cons (o := { dst := some 80, op := Op.call { callee := Callee.value (Operand.func 75), args := #[Operand.tmp 68, Operand.tmp 69, Operand.tmp 70, Operand.tmp 71, Operand.tmp 79], argTypes := #[3, 63, 44, 9, 25] }, type := 145, pos := "json_values.go:671", after := #[{ on := 0, ground := Ground.data }, { on := 1, ground := Ground.data }, { on := 2, ground := Ground.data }, { on := 3, ground := Ground.data }, { on := 11, ground := Ground.data }], guard := none }) rfl (fun K hK => ?_) AllReadyH.nil
        go_simp
        go_at_call 75; refine (member_0 _ _ _ _ _ _ _ _ _ _ _ _ _ _).mono ?_; rintro e w' ⟨rfl, he⟩; (try simp only []); have hX : Ext wc w' := hHeld.trans he
        refine hK.out _ _ hX (fun hHeld => ?_)
        clear hK K
        (try simp only [Act.put, List.setIfInBounds_toArray, List.set_cons_zero, List.set_cons_succ])
        refine wpAnyH_take (i := 13) (oi := { dst := some 67, op := Op.move (Operand.tmp 80), type := 145, pos := "json_values.go:671", after := #[{ on := 12, ground := Ground.data }], guard := none }) (v := ?_) rfl (by kernel_rfl) (by kernel_rfl) (by kernel_rfl) (fun _ _ _ h => h) (Or.inl ⟨by rfl, ?_⟩) (by assumption) ?_
        rotate_left
        · (intro W hSw; have g6 := box_cell (box_ext HJ.out hSw); have g8 := box_cell (box_ext HV.out hSw); have gm := hSw.cell hmc; have y0 := hSw.cell x0; have y1 := hSw.cell x1; have y2 := hSw.cell x2; have y3 := hSw.cell x3; have y4 := hSw.cell x4; have y5 := hSw.cell x5; go_simp; (try with_reducible rfl))
        (try simp only [Act.put, List.setIfInBounds_toArray, List.set_cons_zero, List.set_cons_succ])
        refine wpAnyH_take (i := 14) (oi := { dst := some 81, op := Op.extract (Operand.tmp 67) 0, type := 4, pos := "json_values.go:671", after := #[{ on := 13, ground := Ground.data }], guard := none }) (v := ?_) rfl (by kernel_rfl) (by kernel_rfl) (by kernel_rfl) (fun _ _ _ h => h) (Or.inl ⟨by rfl, ?_⟩) (by assumption) ?_
        rotate_left
        · (intro W hSw; have g6 := box_cell (box_ext HJ.out hSw); have g8 := box_cell (box_ext HV.out hSw); have gm := hSw.cell hmc; have y0 := hSw.cell x0; have y1 := hSw.cell x1; have y2 := hSw.cell x2; have y3 := hSw.cell x3; have y4 := hSw.cell x4; have y5 := hSw.cell x5; go_simp; (try with_reducible rfl))
        (try simp only [Act.put, List.setIfInBounds_toArray, List.set_cons_zero, List.set_cons_succ])
        refine wpAnyH_take (i := 15) (oi := { dst := some 82, op := Op.extract (Operand.tmp 67) 1, type := 4, pos := "json_values.go:671", after := #[{ on := 13, ground := Ground.data }, { on := 16, ground := Ground.gcOnly Departure.lateStores }], guard := none }) (v := ?_) rfl (by kernel_rfl) (by kernel_rfl) (by kernel_rfl) (fun _ _ _ h => h) (Or.inl ⟨by rfl, ?_⟩) (by assumption) ?_
        rotate_left
        · (intro W hSw; have g6 := box_cell (box_ext HJ.out hSw); have g8 := box_cell (box_ext HV.out hSw); have gm := hSw.cell hmc; have y0 := hSw.cell x0; have y1 := hSw.cell x1; have y2 := hSw.cell x2; have y3 := hSw.cell x3; have y4 := hSw.cell x4; have y5 := hSw.cell x5; go_simp; (try with_reducible rfl))
        (try simp only [Act.put, List.setIfInBounds_toArray, List.set_cons_zero, List.set_cons_succ])
        refine wpAnyH_take (i := 16) (oi := { dst := some 17, op := Op.assign (Operand.tmp 81), type := 4, pos := "json_values.go:671", after := #[{ on := 14, ground := Ground.data }, { on := 12, ground := Ground.chain }, { on := 0, ground := Ground.phase }, { on := 1, ground := Ground.phase }, { on := 2, ground := Ground.phase }, { on := 3, ground := Ground.phase }, { on := 4, ground := Ground.phase }, { on := 5, ground := Ground.phase }, { on := 6, ground := Ground.phase }, { on := 7, ground := Ground.phase }, { on := 8, ground := Ground.phase }, { on := 9, ground := Ground.phase }, { on := 10, ground := Ground.phase }, { on := 11, ground := Ground.phase }, { on := 12, ground := Ground.phase }, { on := 13, ground := Ground.phase }, { on := 14, ground := Ground.phase }, { on := 15, ground := Ground.textOnly Departure.lateStores }], guard := none }) (v := ?_) rfl (by kernel_rfl) (by kernel_rfl) (by kernel_rfl) (fun _ _ _ h => h) (Or.inl ⟨by rfl, ?_⟩) (by assumption) ?_
        rotate_left
        · (intro W hSw; have g6 := box_cell (box_ext HJ.out hSw); have g8 := box_cell (box_ext HV.out hSw); have gm := hSw.cell hmc; have y0 := hSw.cell x0; have y1 := hSw.cell x1; have y2 := hSw.cell x2; have y3 := hSw.cell x3; have y4 := hSw.cell x4; have y5 := hSw.cell x5; go_simp; (try with_reducible rfl))
        (try simp only [Act.put, List.setIfInBounds_toArray, List.set_cons_zero, List.set_cons_succ])
        refine wpAnyH_take (i := 17) (oi := { dst := some 18, op := Op.assign (Operand.tmp 82), type := 4, pos := "json_values.go:671", after := #[{ on := 15, ground := Ground.data }, { on := 16, ground := Ground.chain }, { on := 0, ground := Ground.phase }, { on := 1, ground := Ground.phase }, { on := 2, ground := Ground.phase }, { on := 3, ground := Ground.phase }, { on := 4, ground := Ground.phase }, { on := 5, ground := Ground.phase }, { on := 6, ground := Ground.phase }, { on := 7, ground := Ground.phase }, { on := 8, ground := Ground.phase }, { on := 9, ground := Ground.phase }, { on := 10, ground := Ground.phase }, { on := 11, ground := Ground.phase }, { on := 12, ground := Ground.phase }, { on := 13, ground := Ground.phase }, { on := 14, ground := Ground.phase }, { on := 15, ground := Ground.phase }, { on := 16, ground := Ground.phase }], guard := none }) (v := ?_) rfl (by kernel_rfl) (by kernel_rfl) (by kernel_rfl) (fun _ _ _ h => h) (Or.inl ⟨by rfl, ?_⟩) (by assumption) ?_
        rotate_left
        · (intro W hSw; have g6 := box_cell (box_ext HJ.out hSw); have g8 := box_cell (box_ext HV.out hSw); have gm := hSw.cell hmc; have y0 := hSw.cell x0; have y1 := hSw.cell x1; have y2 := hSw.cell x2; have y3 := hSw.cell x3; have y4 := hSw.cell x4; have y5 := hSw.cell x5; go_simp; (try with_reducible rfl))
        (try simp only [Act.put, List.setIfInBounds_toArray, List.set_cons_zero, List.set_cons_succ])
        refine wpAnyH_done (by kernel_rfl) ?_ _
        have HX2 := Sd.mk hHeld
        clear hHeld x0 x1 x2 x3 x4 x5 hmc
        go_wp2_with fail
        go_roundg (ml.length - (j + 1))
        case measure => omega
        case rel => exact ⟨j + 1, rfl, by go_num, by omega, ⟨HE.out.trans HX2.out⟩, ⟨HM.out.ext HX2.out⟩, ⟨box_ext HJ.out HX2.out⟩, ⟨box_ext HN.out HX2.out⟩, ⟨box_ext HV.out HX2.out⟩⟩
    · go_wp2_with fail
      refine wp_loop_rounds 1 ?_
      rw [rounds_succ]
      rcases Nat.eq_zero_or_pos ml.length with hz | hz
      all_goals
        go_wp2_with fail
        go_ret
        exact ⟨rfl, HE.out⟩

end Go.Proofs.YtgkjdgolffnagaaGreatDoor
