/- Parts of the proof of the statement that this folder hands in: lemmas and contracts (Zd). -/
import Derived.Test.YtgkjdgolffnagaaGreatDoorZbMg
import Derived.Deep.RegionLaw
import Derived.Deep.AppendLies
set_option linter.unusedSimpArgs false
set_option linter.unusedVariables false
namespace Go.Proofs.YtgkjdgolffnagaaGreatDoor
open Go.RowKit

theorem Ext.turns {w w' : World} (e : Ext w w') (r : Option Nat) : w.grownBy w' r := ⟨e.os, e.tape, e.output, e.size, fun k hk _ => e.block k hk⟩
theorem info71 : (Tryz.prog.info? 71).map (fun i => (i.zero, i.size, i.bytes)) = some (some (.pointer none), 1, 8) := by kernel_rfl

/-- One error is told. -/
def AddRes (x : Value) (a : Addr) (c p s n : Nat) (q : Nat) (loc : ByteArray) (kx : Value) (w : World) (e : Ending) (w' : World) : Prop :=
  e = .returned (.tuple #[]) ∧ ∃ h cp g, w'.heap[q]? = some (.cells (vd x a c p s n (.slice (some ⟨h, 0, none⟩) 1 cp)) 179 (0, 0)) ∧ w'.cell? ⟨h, 0, none⟩ = some (.pointer (some ⟨g, 0, none⟩)) ∧ ErrAt w' loc kx g ∧ w.heap.size ≤ g ∧ w.heap.size ≤ h ∧ w.grownBy w' (some q)

set_option maxHeartbeats 4000000 in
set_option maxRecDepth 100000 in
theorem addError_c (x : Value) (a : Addr) (c p s n : Nat) (q : Nat) (w : World) (hq : w.heap[q]? = some (.cells (vd x a c p s n (.slice none 0 0)) 179 (0, 0)))
    (loc : ByteArray) (fl : Bool) (nn d : Int) (bl rq : Value) (mp mt mx mr ms : Option Nat) (u : Bool) (hp : w.heap[p]? = some (.cells (schema fl nn d loc bl rq mp mt mx mr ms u) 114 (0, 0))) (D k : Nat) :
    Calls Tryz.prog 177 #[.pointer (some ⟨q, 0, none⟩), .iface D (.pointer (some ⟨k, 0, none⟩))] w (AddRes x a c p s n q loc (.iface D (.pointer (some ⟨k, 0, none⟩))) w) := by
  have f := box_cell hq 5
  have HQ := Sd.mk hq
  have HP := Sd.mk hp
  have hlt := (Array.getElem?_eq_some_iff.1 hq).1
  clear hq hp
  unfold vd at f
  obtain ⟨i0, hi, hz0, hz1, hz2⟩ := info_parts info71
  go_enter Tryz.func177, Tryz.ntmps177
  go_upto_region 0 with (fail)
  have e5 : w.drew.cell? ⟨q, 5, none⟩ = some (.slice none 0 0) := f
  clear f
  go_region_law (first | (go_simp; go_at_call 135; refine (error_c _ _ _ _ _ _ _ _ w.drew HQ.out _ _ _ _ _ _ _ _ _ _ _ _ HP.out _ _).mono ?_; rintro e w' ⟨g, rfl, hg, hE, he⟩; have e5 := he.cell e5; have e6 := (fun o => ((Ext.refl _).alloc o).cell e5); have HE := Sd.mk (And.intro hg (And.intro hE ((Ext.drewN (Ext.refl w) 1).trans he))); clear hg hE he) | (refine step_append_lies _ rfl (.tmp 8) (.tmp 12) 122 rfl w.heap.size 71 i0 (.pointer none) 1 8 Tryz.underlying122 hi hz0 hz1 hz2 rfl (by decide) (.slice none 0 0) 0 [] rfl (World.ownsRow_nil _ _ _ _) ⟨w'.heap.size, 0, none⟩ 1 1 [.pointer (some ⟨g, 0, none⟩)] rfl rfl (cell_one_new _ _ _) (by simp [Value.oneCell']) (by decide) (by simp [maxLen]) (by simp) (by have := HE.out.2.2.size; simp; omega) _ rfl ?_; intro hh cap w1 hown hgrow hat hlt1; have b1 : w1.heap[q]? = some (.cells (vd x a c p s n (.slice none 0 0)) 179 (0, 0)) := (hgrow.block q (by have := HE.out.2.2.size; simp; omega) (by simp [Value.ownBlock])).trans (box_keep (box_ext HQ.out HE.out.2.2) _); have q5 := box_cell b1 5; have q6 := box_frozen b1 5; have HR := Sd.mk (And.intro hown (And.intro hgrow (And.intro (show hh = w'.heap.size + 1 by simpa [Value.ownBlock] using hat) b1))); clear hown hgrow hat hlt1 b1; unfold vd at q5))
  all_goals
    go_wp2_with fail
    go_end0
    obtain ⟨hown, hgrow, h1, b1⟩ := HR.out
    obtain ⟨hg, ⟨A1, c1, hE⟩, he⟩ := HE.out
    have hs := he.size
    have hgl := (Array.getElem?_eq_some_iff.1 hE).1
    have hgw : w.heap.size ≤ g := hg
    refine ⟨rfl, hh, cap, g, box_set b1 5 _, ?_, ⟨A1, c1, ?_⟩, hg, by omega, ?_⟩
    · rw [set_cell_other _ (by omega)]
      have := hown.cells (g := hh) rfl 0 _ rfl
      rw [Addr.add_zero'] at this
      exact this
    · rw [box_other (h := rfl) _ (by simp; omega), hgrow.block g (by simp; omega) (by simp [Value.ownBlock])]
      exact box_keep hE _
    · refine World.grownBy.trans (World.grownBy.trans (he.turns _) ?_) (grown_put _ _ _ _)
      exact World.grownBy.trans (Ext.turns ((Ext.refl _).alloc _) _) ⟨hgrow.os, hgrow.tape, hgrow.output, hgrow.size, fun k hk _ => hgrow.block k hk (by simp [Value.ownBlock])⟩

end Go.Proofs.YtgkjdgolffnagaaGreatDoor
