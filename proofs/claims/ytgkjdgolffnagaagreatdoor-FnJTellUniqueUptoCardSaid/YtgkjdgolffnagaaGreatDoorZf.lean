/- Parts of the proof of the statement that this folder hands in: lemmas and contracts (Zf). -/
import Derived.Test.YtgkjdgolffnagaaGreatDoorZe
import Derived.Test.YtgkjdgolffnagaaGreatDoorJMg
set_option linter.unusedSimpArgs false
set_option linter.unusedVariables false
namespace Go.Proofs.YtgkjdgolffnagaaGreatDoor
open Go.RowKit

theorem Sch.grown {w w' : World} {p q : Nat} {u : Bool} {loc : ByteArray} {rq mp mt mx mr ms : Nat} (h : Sch w p u loc rq mp mt mx mr ms) (g : w.grownBy w' (some q)) (hl : p < q ∧ mp < q ∧ mt < q ∧ mx < q ∧ mr < q ∧ ms < q) : Sch w' p u loc rq mp mt mx mr ms := by
  have k : ∀ {b : Nat} {o : Obj}, w.heap[b]? = some o → b < q → w'.heap[b]? = some o := fun hb hlt => by
    rw [g.block _ (Array.getElem?_eq_some_iff.1 hb).1 (by simp; omega)]; exact hb
  exact ⟨k h.s hl.1, k h.p hl.2.1, k h.t hl.2.2.1, k h.x hl.2.2.2.1, k h.r hl.2.2.2.2.1, k h.d hl.2.2.2.2.2⟩

/-- What is told of an array. -/
def ArrRes (x : Value) (a : Addr) (c p s n q : Nat) (loc : ByteArray) (is : List JV) (w : World) (e : Ending) (w' : World) : Prop :=
  e = .returned (.tuple #[]) ∧ ((¬ Twins is ∧ Ext w w') ∨
    ∃ k j i : Nat, ∃ (hi : i < is.length) (hj : j < is.length), j < i ∧ JEq is[i] is[j] ∧ w.heap.size ≤ k ∧ w'.heap[k]? = some (.cells #[.int .i64 j, .int .i64 i] 215 (0, 0)) ∧
      ∃ h cp g, w'.heap[q]? = some (.cells (vd x a c p s n (.slice (some ⟨h, 0, none⟩) 1 cp)) 179 (0, 0)) ∧ w'.cell? ⟨h, 0, none⟩ = some (.pointer (some ⟨g, 0, none⟩)) ∧ ErrAt w' loc (.iface 212 (.pointer (some ⟨k, 0, none⟩))) g ∧ w.heap.size ≤ g ∧ w.heap.size ≤ h ∧ w.grownBy w' (some q))

set_option maxHeartbeats 4000000 in
set_option maxRecDepth 100000 in
theorem arr_c (x : Value) (a : Addr) (c p s n : Nat) (q : Nat) (w : World) (loc : ByteArray) (rq mp mt mx mr ms : Nat)
    (hq : w.heap[q]? = some (.cells (vd x a c p s n (.slice none 0 0)) 179 (0, 0))) (hs : Sch w p true loc rq mp mt mx mr ms) (hl : p < q ∧ mp < q ∧ mt < q ∧ mx < q ∧ mr < q ∧ ms < q)
    (is : List JV) (hok : ∀ i (h : i < is.length), (is[i]).Ok) (hcn : ∀ i (h : i < is.length), (is[i]).counts = true) (h20 : is.length ≤ 20) (A : Option Addr) (cc : Nat) (xf : Nat → Value) (N : Nat → Prop) (hr : Row w N A is xf) :
    Calls Tryz.prog 147 #[.pointer (some ⟨q, 0, none⟩), .slice A is.length cc] w (ArrRes x a c p s n q loc is w) := by
  have HQ := Sd.mk hq
  have HS := Sd.mk hs
  have HR := Sd.mk hr
  have OK := Sd.mk hok
  have CN := Sd.mk hcn
  have HL := Sd.mk hl
  have f := box_cell hq
  have g := box_cell hs.s
  clear hq hs hr hok hcn hl
  unfold vd at f
  unfold schema at g
  by_cases hn : 1 < is.length
  · have h1 : decide ((1 : Int) < (is.length : Int)) = true := by simp; omega
    go_enter Tryz.func147, Tryz.ntmps147
    go_wp2_with (first
      | (go_at_call 180; refine (duplicates_c is OK.out CN.out h20 _ _ _ _ _ HR.out).mono ?_; rintro e w' ⟨⟨j, i, rfl, hd⟩, he⟩; have HE := Sd.mk he; have f1 := box_cell (box_ext HQ.out he); have g1 := box_cell (HS.out.ext he).s; unfold vd at f1; unfold schema at g1; clear he; rcases hd with ⟨rfl, rfl, hd⟩ | ⟨ia, jb, ha, hb, hlt, hj, rfl, rfl⟩)
      | (go_at_call 181; refine (min_zero _ _).mono ?_; rintro e w3 ⟨rfl, rfl⟩)
      | (go_at_call 177; refine (addError_c _ _ _ _ _ _ _ _ (box_keep (box_ext HQ.out HE.out) _) _ _ _ _ _ _ _ _ _ _ _ _ (box_keep (HS.out.ext HE.out).s _) _ _).mono ?_; rintro e w2 ⟨rfl, h, cp, g, hq2, hh, hE, hg, hhs, hgr⟩; have f2 := box_cell hq2; have g2 := box_cell ((HS.out.ext (HE.out.alloc _)).grown hgr HL.out).s; unfold vd at f2; unfold schema at g2; have H2 := Sd.mk (And.intro hq2 (And.intro hh (And.intro hE (And.intro hg (And.intro hhs hgr))))); clear hq2 hh hE hg hhs hgr))
    · go_loop [242] (fun v => v = .int .i64 0) (fun _ => 0)
      case atStart => rfl
      case round =>
        subst hrel
        go_wp2_with fail
        go_end0
        exact ⟨rfl, .inl ⟨fun ⟨i, j, hi, hj, hlt, he⟩ => hd i hi j hj hlt he, HE.out⟩⟩
    · go_loop [242] (fun v => v = .int .i64 0) (fun _ => 0)
      case atStart => rfl
      case round =>
        subst hrel
        go_wp2_with fail
        go_end0
        obtain ⟨hq2, hh, ⟨A1, c1, hE⟩, hg, hhs, hgr⟩ := H2.out
        have hs := HE.out.size
        simp only [World.size_alloc] at hg hhs
        have hqs := (Array.getElem?_eq_some_iff.1 HQ.out).1
        refine ⟨rfl, .inr ⟨w'.heap.size, jb, ia, ha, hb, hlt, hj, hs, ?_, h, cp, g, hq2, hh, ⟨A1, c1, hE⟩, by omega, by omega, ?_⟩⟩
        · rw [hgr.block _ (by simp) (by simp; omega)]
          exact box_alloc _ _
        · exact World.grownBy.trans (World.grownBy.trans (HE.out.turns _) (Ext.turns ((Ext.refl _).alloc _) _)) hgr
  · have h1 : decide ((1 : Int) < (is.length : Int)) = false := by simp; omega
    go_enter Tryz.func147, Tryz.ntmps147
    go_wp2_with (go_at_call 181; refine (min_zero _ _).mono ?_; rintro e w' ⟨rfl, rfl⟩)
    go_loop [242] (fun v => v = .int .i64 0) (fun _ => 0)
    case atStart => rfl
    case round =>
      subst hrel
      go_wp2_with fail
      go_end0
      exact ⟨rfl, .inl ⟨fun ⟨i, j, hi, hj, hlt, _⟩ => by omega, Ext.refl _⟩⟩

end Go.Proofs.YtgkjdgolffnagaaGreatDoor
