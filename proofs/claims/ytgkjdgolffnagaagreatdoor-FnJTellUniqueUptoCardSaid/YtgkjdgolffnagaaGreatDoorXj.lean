/- Parts of the proof of the statement that this folder hands in: lemmas and contracts (Xj). -/
import Derived.Test.YtgkjdgolffnagaaGreatDoorXaMg
set_option linter.unusedSimpArgs false
set_option linter.unusedVariables false
namespace Go.Proofs.YtgkjdgolffnagaaGreatDoor
open Go.RowKit

theorem build44f (w : World) : (Instr.build 44 #[(0, .int .i64 2)]).run Tryz.prog w = .ok (.agg (node 2 false)) w := run_build w 44 _ _ (by kernel_rfl)
theorem build44t (w : World) : (Instr.build 44 #[(21, .bool true)]).run Tryz.prog w = .ok (.agg (node 0 true)) w := run_build w 44 _ _ (by kernel_rfl)
theorem build25 (w : World) : (Instr.build 25 #[]).run Tryz.prog w = .ok (.agg (jv 0 false 0 ⟨#[]⟩ none 0 0 none 0 0)) w := run_build w 25 _ _ (by kernel_rfl)

theorem right_false (nb : Nat) (w : World) (hb : w.heap[nb]? = some (.cells (node 2 false) 44 (0, 0)))
    (P : Nat) (A' : Option Addr) (G ck : Nat) (cs : Array Value) (hq : ∃ q, EofF cs q w) (hc : ∀ i, i < 8 → w.cell? ⟨G, i, none⟩ = cs[i]?) :
    Calls Tryz.prog 16 #[.int .i64 2020, .slice (some ⟨nb, 0, none⟩) 1 1, .agg (jv 0 false 0 ⟨#[]⟩ none 0 0 none 0 0), .agg (je sSchema (some ⟨P, 0, none⟩) 0 0 A' 0 none 0 0 (some ⟨G, 0, none⟩) 1 ck)] w fun e w' => e = .returned (.bool true) ∧ Ext w w' := by
  obtain ⟨q, P2, cp, A2, ca, rfl⟩ := hq
  have htk : ∀ w', Ext w w' → Calls Tryz.prog 41 #[.int .i64 2020, .agg (jn nb), .int .i64 1, .agg (jv 0 false 0 ⟨#[]⟩ none 0 0 none 0 0)] w' fun e w'' => e = .returned (.bool false) ∧ Ext w' w'' :=
    fun w' e => takes_no id (takes_of nb _ _ _ _ _ _ _ _ _ _ w' _ fun w'' e' => (judge_false nb w'' (box_ext (box_ext hb e) e')).mono fun _ _ h3 => ⟨h3.1, e'.trans h3.2⟩)
  refine right_c nb _ _ _ _ _ _ _ _ _ _ _ _ _ _ _ _ _ _ _ _ _ _ w fun w1 sb e1 hsb => ?_
  refine err_top nb sb _ _ _ _ _ _ _ _ _ _ _ _ _ _ _ _ _ _ _ sFalse (some ⟨P2, 0, none⟩) 0 cp A2 ca none 0 0 G ck w1 hsb (fun w' e => path_schema _ _ _ _ _ _ _ _ _ _ w') (fun w' e => htk w' (e1.trans e)) (fun w' e => kind2_top nb _ _ _ _ _ _ _ _ _ _ _ _ _ _ _ _ _ _ _ _ w' (box_ext hb (e1.trans e))) (fun i hi => row_ext (hc i hi) hi e1) (fun w' e => ?_)
  have e2 := e1.trans e
  exact err_kid nb sb _ _ _ _ _ _ _ _ _ _ _ _ _ _ _ _ _ _ _ w' (box_ext hsb e) (fun w'' e' => path_false _ _ _ _ _ _ _ _ _ _ w'') (fun w'' e' => htk w'' (e2.trans e')) (fun w'' e' => kind2_false nb _ _ _ _ _ _ _ _ _ _ _ _ _ _ _ _ _ _ w'' (box_ext hb (e2.trans e')))

set_option maxHeartbeats 2000000 in
set_option maxRecDepth 100000 in
theorem tells_false (w : World) : Calls Tryz.prog 9 #[] w fun e w' => e = .returned (.bool true) ∧ Ext w w' := by
  go_enter Tryz.func9, Tryz.ntmps9
  go_wp2_with fail
  refine wp_build' 44 #[(0, .const (.int .i64 2))] rfl (node 2 false) (by intro w; simp only [List.map_toArray, List.map_cons, List.map_nil]; exact build44f w) ?_
  go_wp2_with fail
  go_at_call 13
  refine (errs_false w.heap.size _ (box_alloc _ _)).mono ?_
  rintro e w3 ⟨he, (⟨ha, rfl⟩ | ⟨P, A', G2, ck, kd, P2, lp, cp, A2, ca, N2, ln, cn, rfl, hq, hG, hc⟩)⟩
  · exact ha.elim
  · have HE3 := Sd.mk (((Ext.refl w).alloc _).trans he)
    obtain rfl : kd = sFalse := by
      obtain ⟨P2, cp, A2, ca, h1⟩ := hq
      have := congrArg (fun x : Array Value => x[1]?) h1
      simpa using this
    have HQ := Sd.mk hq; have HC := Sd.mk hc
    clear he hq hG hc
    go_wp2_with (first
      | (refine wpList_store_row rfl 49 _ _ rfl _ (je sSchema (some ⟨P, 0, none⟩) 0 0 A' 0 none 0 0 (some ⟨G2, 0, none⟩) 1 ck) _ rfl rfl 49 (box_alloc _ _) rfl s49' (by simp [Value.oneCell']) ?_; intro wn hn1 hn2; have HX : Sd (Ext w wn) := ⟨Ext.over (HE3.out.alloc _) hn2 HE3.out.size⟩; have H7 := Sd.mk hn1; have HX3 : Sd (Ext w3 wn) := ⟨Ext.over ((Ext.refl w3).alloc _) hn2 (Nat.le_refl _)⟩; clear hn1 hn2)
      | (refine wpList_load_row_g (by rfl) 49 _ rfl w3.heap.size rfl 49 (je sSchema (some ⟨P, 0, none⟩) 0 0 A' 0 none 0 0 (some ⟨G2, 0, none⟩) 1 ck) (0, 0) _ (by first | exact H7.out | exact box_keep H7.out _) Tryz.underlying49 rfl s49' ?_)
      | fail)
    refine wp_build' 44 #[(0, .const (.int .i64 2))] rfl (node 2 false) (by intro w; simp only [List.map_toArray, List.map_cons, List.map_nil]; exact build44f w) ?_
    go_wp2_with (first
      | (refine wpList_load_row_g (by rfl) 49 _ rfl w3.heap.size rfl 49 (je sSchema (some ⟨P, 0, none⟩) 0 0 A' 0 none 0 0 (some ⟨G2, 0, none⟩) 1 ck) (0, 0) _ (by first | exact H7.out | exact box_keep H7.out _) Tryz.underlying49 rfl s49' ?_)
      | (go_at_call 16; refine (right_false wn.heap.size _ (box_alloc _ _) P A' G2 ck _ ⟨0, HQ.out⟩ (fun i hi => row_ext (HC.out i hi) hi (HX3.out.alloc _))).mono ?_; rintro e w7 ⟨rfl, he⟩; have HX7 := Sd.mk ((HX.out.alloc _).trans he); have HX37 := Sd.mk ((HX3.out.alloc _).trans he); have H7 := Sd.mk (box_ext (box_keep H7.out _) he); clear he)
      | (go_at_call 15; refine (kinds_top sFalse NF (some ⟨P, 0, none⟩) 0 0 A' 0 none 0 0 P2 lp cp A2 ca N2 ln cn G2 ck w7.heap.size 1 _ (box_cell (box_alloc _ _) 0) (fun i hi => row_ext (HC.out i hi) hi (HX37.out.alloc _))).mono ?_; rintro e w6 ⟨rfl, he⟩; have HX6 := Sd.mk ((HX7.out.alloc _).trans he); clear he)
      | fail)
    go_ret
    exact ⟨rfl, HX6.out⟩

set_option maxRecDepth 100000 in
theorem alone_c (w : World) : Calls Tryz.prog 8 #[.agg (node 0 true)] w fun e w' => e = .returned (.slice (some ⟨w.heap.size + 1, 0, none⟩) 1 1) ∧ Ext w w' ∧ w'.heap[w.heap.size + 1]? = some (.cells (node 0 true) 44 (0, 0)) := by
  go_enter Tryz.func8, Tryz.ntmps8
  go_wp2_with (first
    | (refine wpList_load_row rfl 44 _ rfl w.heap.size rfl 44 (node 0 true) (0, 0) _ (box_alloc w _) Tryz.underlying44 rfl s44 ?_)
    | fail)
  go_ret
  exact ⟨rfl, ((Ext.refl w).alloc _).alloc _, box_at (by simp)⟩

end Go.Proofs.YtgkjdgolffnagaaGreatDoor
