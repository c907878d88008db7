/- Parts of the proof of the statement that this folder hands in: lemmas and contracts (Zh). -/
import Derived.Test.YtgkjdgolffnagaaGreatDoorZg
set_option linter.unusedSimpArgs false
set_option linter.unusedVariables false
namespace Go.Proofs.YtgkjdgolffnagaaGreatDoor
open Go.RowKit

/-- A value is a list with two equal elements. -/
def TwinV (v : JV) : Prop := v.kind = 4 ∧ Twins v.items

/-- What the validator says of a value. -/
def ValRes (v : JV) (loc : ByteArray) (q : Nat) (w : World) (e : Ending) (w' : World) : Prop :=
  (¬ TwinV v ∧ (∃ y, e = .returned (.tuple #[y, .nilIface])) ∧ Ext w w') ∨
    ∃ k j i : Nat, ∃ (hi : i < v.items.length) (hj : j < v.items.length), v.kind = 4 ∧ j < i ∧ JEq v.items[i] v.items[j] ∧ w'.heap[k]? = some (.cells #[.int .i64 j, .int .i64 i] 215 (0, 0)) ∧
      ∃ g y, e = .returned (.tuple #[y, .iface 71 (.pointer (some ⟨g, 0, none⟩))]) ∧ ErrAt w' loc (.iface 212 (.pointer (some ⟨k, 0, none⟩))) g ∧ w.heap.size ≤ g ∧ w.grownBy w' (some q)

set_option maxHeartbeats 8000000 in
set_option maxRecDepth 100000 in
theorem valid_plain {x : Value} (a : Addr) (c p s n : Nat) (q : Nat) (w : World) (loc : ByteArray) (rq mp mt mx mr ms : Nat) {N : Nat → Prop} {v : JV} (h : Any w N x v) (h4 : v.kind ≠ 4) (h5 : v.kind ≠ 5)
    (hq : w.heap[q]? = some (.cells (vd x a c p s n (.slice none 0 0)) 179 (0, 0))) (hsc : w.heap[s]? = some (.cells #[.pointer (some ⟨p, 0, none⟩), .string ⟨#[]⟩, .int .i64 0, .pointer none] 175 (0, 0))) (hs : Sch w p true loc rq mp mt mx mr ms) :
    Calls Tryz.prog 98 #[.pointer (some ⟨q, 0, none⟩)] w fun e w' => (∃ y, e = .returned (.tuple #[y, .nilIface])) ∧ Ext w w' := by
  have a1 := y108; have a2 := y112; have a4 := y9
  have b1 := fun v w => n108 112 v w (by decide); have b2 := fun v w => n108 4 v w (by decide); have b3 := fun v w => n108 9 v w (by decide)
  have b5 := fun v w => n112 4 v w (by decide); have b6 := fun v w => n112 9 v w (by decide); have b7 := fun v w => n112 108 v w (by decide)
  have b8 := fun v w => n9 4 v w (by decide); have b9 := fun v w => n9 108 v w (by decide); have b10 := fun v w => n9 112 v w (by decide)
  have d1 := l108; have d2 := l112; have d3 := l9
  have HA := Sd.mk h
  have HQ := Sd.mk hq
  have HS := Sd.mk hs
  have HC := Sd.mk hsc
  have f := box_cell hq
  have g := box_cell hs.s
  clear hq hs hsc
  unfold vd at f
  unfold schema at g
  cases h
  case list => exact absurd ‹_› h4
  case obj => exact absurd ‹_› h5
  all_goals clear h4 h5
  all_goals
    go_enter Tryz.func98, Tryz.ntmps98
    go_wp2_with (first
      | (go_at_call 136; refine (cycle_c _ _ _ HC.out).mono ?_; rintro e w1 ⟨rfl, rfl⟩)
      | (go_at_call 138; refine (typeOf_c HA.out).mono ?_; rintro e w1 ⟨⟨t, rfl, ht⟩, rfl⟩; have ht' : (t == 0) = false := by simpa using ht)
      | (go_at_call 149; refine (cond_c _ _ _ _ _ _ _ _ _ _ _ _ _ _ _ _ _ HQ.out HS.out).mono ?_; rintro e w1 ⟨rfl, rfl⟩)
      | (go_at_call 148; refine (str_c _ _ _ _ _ _ _ _ _ _ _ _ _ _ _ _ _ HQ.out HS.out _).mono ?_; rintro e w1 ⟨rfl, rfl⟩)
      | (go_at_call 150; refine (unevalv_c _ _ _ _ _ _ _ _ _ _ _ _ _ _ _ _ HA.out HQ.out HS.out).mono ?_; rintro e w1 ⟨rfl, rfl⟩))
    go_ret2
    exact ⟨⟨_, rfl⟩, Ext.refl _⟩

set_option maxHeartbeats 8000000 in
set_option maxRecDepth 100000 in
theorem valid_obj (a : Addr) (c p s n : Nat) (q : Nat) (w : World) (loc : ByteArray) (rq mp mt mx mr ms : Nat) {N : Nat → Prop} {v : JV} (r : Nat) (h : Any w N (.iface 108 (.map (some r))) v) (es : Array MapEntry) (clock : Nat) (F : Ents es clock) (hr : w.heap[r]? = some (.map es clock))
    (hq : w.heap[q]? = some (.cells (vd (.iface 108 (.map (some r))) a c p s n (.slice none 0 0)) 179 (0, 0))) (hsc : w.heap[s]? = some (.cells #[.pointer (some ⟨p, 0, none⟩), .string ⟨#[]⟩, .int .i64 0, .pointer none] 175 (0, 0))) (hs : Sch w p true loc rq mp mt mx mr ms) :
    Calls Tryz.prog 98 #[.pointer (some ⟨q, 0, none⟩)] w fun e w' => (∃ y, e = .returned (.tuple #[y, .nilIface])) ∧ Ext w w' := by
  have a1 := y108; have a2 := y112; have a4 := y9
  have b1 := fun v w => n108 112 v w (by decide); have b2 := fun v w => n108 4 v w (by decide); have b3 := fun v w => n108 9 v w (by decide)
  have b5 := fun v w => n112 4 v w (by decide); have b6 := fun v w => n112 9 v w (by decide); have b7 := fun v w => n112 108 v w (by decide)
  have b8 := fun v w => n9 4 v w (by decide); have b9 := fun v w => n9 108 v w (by decide); have b10 := fun v w => n9 112 v w (by decide)
  have d1 := l108; have d2 := l112; have d3 := l9
  have HA := Sd.mk h
  have HQ := Sd.mk hq
  have HS := Sd.mk hs
  have HC := Sd.mk hsc
  have f := box_cell hq
  have g := box_cell hs.s
  clear hq hs hsc
  unfold vd at f
  unfold schema at g
  have HR := Sd.mk hr
  clear hr
  go_enter Tryz.func98, Tryz.ntmps98
  go_wp2_with (first
    | (go_at_call 136; refine (cycle_c _ _ _ HC.out).mono ?_; rintro e w1 ⟨rfl, rfl⟩)
    | (go_at_call 138; refine (typeOf_c HA.out).mono ?_; rintro e w1 ⟨⟨t, rfl, ht⟩, rfl⟩; have ht' : (t == 0) = false := by simpa using ht)
    | (go_at_call 146; refine (obj_c _ _ _ _ _ _ _ _ _ _ _ _ _ _ _ _ _ HQ.out HS.out _ _ _ F HR.out).mono ?_; rintro e w1 ⟨rfl, he⟩; have HE := Sd.mk he; have f1 := box_cell (box_ext HQ.out he); have g1 := box_cell (HS.out.ext he).s; clear he; unfold vd at f1; unfold schema at g1)
    | (go_at_call 149; refine (cond_c _ _ _ _ _ _ _ _ _ _ _ _ _ _ _ _ _ (box_ext HQ.out HE.out) (HS.out.ext HE.out)).mono ?_; rintro e w1 ⟨rfl, rfl⟩)
    | (go_at_call 150; refine (unevalv_c _ _ _ _ _ _ _ _ _ _ _ _ _ _ _ _ HA.out (box_ext HQ.out HE.out) (HS.out.ext HE.out)).mono ?_; rintro e w1 ⟨rfl, rfl⟩))
  go_ret2
  exact ⟨⟨_, rfl⟩, HE.out⟩

set_option maxHeartbeats 8000000 in
set_option maxRecDepth 100000 in
theorem valid_list (a : Addr) (c p s n : Nat) (q : Nat) (w : World) (loc : ByteArray) (rq mp mt mx mr ms : Nat) {N : Nat → Prop} (k : Int) (b : Bool) (nn : Int) (t : ByteArray) (ns : List ByteArray) (is : List JV) (hk : k = 4) (A : Option Addr) (cc : Nat) (xf : Nat → Value)
    (h : Any w N (.iface 112 (.slice A is.length cc)) (.mk k b nn t ns is)) (hr : Row w N A is xf) (hok : ∀ i (h : i < is.length), (is[i]).Ok) (hcn : ∀ i (h : i < is.length), (is[i]).counts = true) (h20 : is.length ≤ 20)
    (hq : w.heap[q]? = some (.cells (vd (.iface 112 (.slice A is.length cc)) a c p s n (.slice none 0 0)) 179 (0, 0))) (hsc : w.heap[s]? = some (.cells #[.pointer (some ⟨p, 0, none⟩), .string ⟨#[]⟩, .int .i64 0, .pointer none] 175 (0, 0))) (hs : Sch w p true loc rq mp mt mx mr ms) (hl : p < q ∧ mp < q ∧ mt < q ∧ mx < q ∧ mr < q ∧ ms < q) :
    Calls Tryz.prog 98 #[.pointer (some ⟨q, 0, none⟩)] w (ValRes (.mk k b nn t ns is) loc q w) := by
  have a1 := y108; have a2 := y112; have a4 := y9
  have b1 := fun v w => n108 112 v w (by decide); have b2 := fun v w => n108 4 v w (by decide); have b3 := fun v w => n108 9 v w (by decide)
  have b5 := fun v w => n112 4 v w (by decide); have b6 := fun v w => n112 9 v w (by decide); have b7 := fun v w => n112 108 v w (by decide)
  have b8 := fun v w => n9 4 v w (by decide); have b9 := fun v w => n9 108 v w (by decide); have b10 := fun v w => n9 112 v w (by decide)
  have d1 := l108; have d2 := l112; have d3 := l9
  have HA := Sd.mk h
  have HQ := Sd.mk hq
  have HS := Sd.mk hs
  have HC := Sd.mk hsc
  have f := box_cell hq
  have g := box_cell hs.s
  clear hq hs hsc
  unfold vd at f
  unfold schema at g
  have HL := Sd.mk hl
  have OK := Sd.mk hok
  have CN := Sd.mk hcn
  have HR := Sd.mk hr
  clear hr hok hcn hl
  go_enter Tryz.func98, Tryz.ntmps98
  go_wp2_with (first
    | (go_at_call 136; refine (cycle_c _ _ _ HC.out).mono ?_; rintro e w1 ⟨rfl, rfl⟩)
    | (go_at_call 138; refine (typeOf_c HA.out).mono ?_; rintro e w1 ⟨⟨t, rfl, ht⟩, rfl⟩; have ht' : (t == 0) = false := by simpa using ht)
    | (go_at_call 147; refine (arr_c _ _ _ _ _ _ _ _ _ _ _ _ _ _ _ HQ.out HS.out HL.out is OK.out CN.out h20 _ _ _ _ HR.out).mono ?_; rintro e w1 ⟨rfl, ⟨hn, he⟩ | ⟨k1, j, i, hi, hj, hji, hJ, hks, hkb, hh, cp, g1, hq1, hc1, hE1, hgs, hhs, hgr⟩⟩; all_goals (first
      | (have NT := Sd.mk hn; have HE := Sd.mk he; have HQ1 := Sd.mk (box_ext HQ.out he); have HS1 := Sd.mk (HS.out.ext he); have f1 := box_cell (box_ext HQ.out he); have g1 := box_cell (HS.out.ext he).s; clear hn he; unfold vd at f1; unfold schema at g1)
      | (have HS1 := Sd.mk (HS.out.grown hgr HL.out); have HQ1 := Sd.mk hq1; have f1 := box_cell hq1; have g1 := box_cell HS1.out.s; have HT := Sd.mk (And.intro hJ (And.intro hkb (And.intro hE1 (And.intro hgs hgr)))); clear hq1 hJ hkb hE1 hgs hgr hks hhs; unfold vd at f1; unfold schema at g1)))
    | (go_at_call 149; refine (cond_c _ _ _ _ _ _ _ _ _ _ _ _ _ _ _ _ _ HQ1.out HS1.out).mono ?_; rintro e w1 ⟨rfl, rfl⟩)
    | (go_at_call 150; refine (unevalv_c _ _ _ _ _ _ _ _ _ _ _ _ _ _ _ _ HA.out HQ1.out HS1.out).mono ?_; rintro e w1 ⟨rfl, rfl⟩))
  · go_ret2
    exact .inl ⟨fun h => NT.out h.2, ⟨_, rfl⟩, HE.out⟩
  · go_quiet (fail)
    go_wp2_with fail
    go_ret2
    obtain ⟨hJ, hkb, hE1, hgs, hgr⟩ := HT.out
    exact .inr ⟨_, j, i, hi, hj, hk, hji, hJ, hkb, _, _, rfl, hE1, hgs, ⟨hgr.os, hgr.tape, hgr.output, hgr.size, hgr.block⟩⟩

end Go.Proofs.YtgkjdgolffnagaaGreatDoor
