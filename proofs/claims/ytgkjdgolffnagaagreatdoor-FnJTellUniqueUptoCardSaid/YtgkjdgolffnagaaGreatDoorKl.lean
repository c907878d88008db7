/- Parts of the proof of the statement that this folder hands in: lemmas and contracts (Kl). -/
import Derived.Test.YtgkjdgolffnagaaGreatDoorKk
set_option linter.unusedSimpArgs false
set_option linter.unusedVariables false
namespace Go.Proofs.YtgkjdgolffnagaaGreatDoor
open Go.RowKit

/-- A value is a list with two equal elements. -/
def TwinJ (v : JV) : Prop := v.kind = 4 ∧ Twins v.items

def JudgeRes (p : Prop) (e : Ending) : Prop := ∃ r m, e = .returned (.tuple #[.bool r, m]) ∧ (r = true ↔ p)

theorem judge_v (nb : Nat) (v : JV) (ok : v.Ok) (cn : v.counts = true) (cs : List Value) (w : World) (h : v.At w cs) (hb : w.heap[nb]? = some (.cells (node 0 true) 44 (0, 0))) :
    Calls Tryz.prog 19 #[.int .i64 2020, .agg (jn nb), .int .i64 1, .agg cs.toArray] w fun e w' => JudgeRes (¬ TwinJ v) e ∧ Ext w w' := by
  obtain ⟨k, b, n, t, ns, is⟩ := v
  simp only [JV.At] at h
  obtain ⟨A, c, B, d, rfl, hS, hl, hA, ht⟩ := h
  obtain ⟨hk2, hcn⟩ := counts_mk cn
  cases ok with | mk _ _ _ _ _ _ h0 h5 hni hok
  by_cases k4 : k = 4
  · subst k4
    by_cases hT : Twins is
    · refine (judge_list_t nb b n t ns is hok hcn hT A c B d w hl ht hS hA hb).mono ?_
      rintro e w' ⟨⟨m, rfl⟩, he⟩
      exact ⟨⟨_, m, rfl, by simp [TwinJ, JV.kind, JV.items, hT]⟩, he⟩
    · refine (judge_list_n nb b n t ns is hok hcn hT A c B d w hl ht hS hA hb).mono ?_
      rintro e w' ⟨⟨m, rfl⟩, he⟩
      exact ⟨⟨_, m, rfl, by simp [TwinJ, JV.kind, JV.items, hT]⟩, he⟩
  · have hn : ¬ TwinJ (.mk k b n t ns is) := fun h => k4 h.1
    by_cases k3 : k = 3
    · subst k3
      refine (judge_text nb b n t ns is A c B d w hl ht hS hA hb).mono ?_
      rintro e w' ⟨⟨m, rfl⟩, he⟩
      exact ⟨⟨_, m, rfl, by simp [hn]⟩, he⟩
    · by_cases k5 : k = 5
      · subst k5
        refine (judge_obj nb b n t ns is (hni rfl) A c B d w hl ht hS hA hb).mono ?_
        rintro e w' ⟨⟨m, rfl⟩, he⟩
        exact ⟨⟨_, m, rfl, by simp [hn]⟩, he⟩
      · refine (judge_plain nb k b n t ns is hk2 k3 k4 k5 A c B d w hl ht hS hA hb).mono ?_
        rintro e w' ⟨⟨m, rfl⟩, he⟩
        exact ⟨⟨_, m, rfl, by simp [hn]⟩, he⟩

set_option maxHeartbeats 4000000 in
set_option maxRecDepth 100000 in
theorem judge_false (nb : Nat) (w : World) (hb : w.heap[nb]? = some (.cells (node 2 false) 44 (0, 0))) :
    Calls Tryz.prog 19 #[.int .i64 2020, .agg (jn nb), .int .i64 1, .agg (jv 0 false 0 ⟨#[]⟩ none 0 0 none 0 0)] w fun e w' => JudgeRes False e ∧ Ext w w' := by
  have HB := Sd.mk hb
  clear hb
  have hmk : ∀ w : World, (Instr.makeSlice 58 (.int .i64 0) (.int .i64 0)).run Tryz.prog w = .ok (.slice (some ⟨w.heap.size, 0, none⟩) 0 0) (w.alloc (.cells (madeCells #[.bool false] 0) 4)) := make_bools 0 (by omega)
  go_enter Tryz.func19, Tryz.ntmps19
  go_wp2_with (first
    | (refine wpList_load_row rfl 44 _ rfl nb rfl 44 (node 2 false) (0, 0) _ (box_keep (box_keep HB.out _) _) Tryz.underlying44 rfl s44 ?_)
    | (refine wpList_store_row rfl 44 _ _ rfl _ (node 2 false) (node 0 false) rfl rfl 44 (box_at (by simp)) rfl s44 (o44 2 false) ?_; intro wn hn1 hn2; have HV := Sd.mk (grown_keep hn2 (box_keep (box_at (b := w.heap.size + 1) (by simp)) _) (by omega)); have HN := Sd.mk (show wn.heap[w.heap.size + 1 + 1]? = _ from hn1); have HE : Sd (Ext w wn) := ⟨Ext.over ((((Ext.refl w).alloc _).alloc _).alloc _) hn2 (by omega)⟩; have f8 := box_cell HV.out; have f7 := (fun o => box_cell (box_keep HN.out o)); clear hn1 hn2; unfold node at f7)
    | fail)
  go_ret2
  exact ⟨⟨_, _, rfl, by simp⟩, HE.out.alloc _⟩

section
variable (nb : Nat) (k : Int) (b : Bool) (n : Int) (t : ByteArray) (A : Option Addr) (la c : Nat) (B : Option Addr) (lb d : Nat) (w : World) (p : Prop)
theorem takes_of (hj : ∀ w', Ext w w' → Calls Tryz.prog 19 #[.int .i64 2020, .agg (jn nb), .int .i64 1, .agg (jv k b n t A la c B lb d)] w' fun e w' => JudgeRes p e ∧ Ext w w') :
    Calls Tryz.prog 41 #[.int .i64 2020, .agg (jn nb), .int .i64 1, .agg (jv k b n t A la c B lb d)] w fun e w' => RetIff p e ∧ Ext w w' := by
  have HJ := Sd.mk hj
  clear hj
  go_enter Tryz.func41, Tryz.ntmps41
  go_wp2_with (go_at_call 19; refine (HJ.out _ (((Ext.refl w).alloc _).alloc _)).mono ?_; rintro e w' ⟨⟨r, m, rfl, hr⟩, he⟩; have HR := Sd.mk hr; have HE := Sd.mk he; clear hr he)
  go_ret
  exact ⟨⟨_, rfl, HR.out⟩, HE.out⟩
theorem valid_of (hj : ∀ w', Ext w w' → Calls Tryz.prog 19 #[.int .i64 2020, .agg (jn nb), .int .i64 1, .agg (jv k b n t A la c B lb d)] w' fun e w' => JudgeRes p e ∧ Ext w w') :
    Calls Tryz.prog 14 #[.slice (some ⟨nb, 0, none⟩) 1 1, .agg (jv k b n t A la c B lb d)] w fun e w' => RetIff p e ∧ Ext w w' := by
  have HJ := Sd.mk hj
  clear hj
  go_enter Tryz.func14, Tryz.ntmps14
  go_wp2_with (go_at_call 19; refine (HJ.out _ ((Ext.refl w).alloc _)).mono ?_; rintro e w' ⟨⟨r, m, rfl, hr⟩, he⟩; have HR := Sd.mk hr; have HE := Sd.mk he; clear hr he)
  go_ret
  exact ⟨⟨_, rfl, HR.out⟩, HE.out⟩
end

end Go.Proofs.YtgkjdgolffnagaaGreatDoor
