/- Parts of the proof of the statement that this folder hands in: lemmas and contracts (Ze). -/
import Derived.Test.YtgkjdgolffnagaaGreatDoorZd
set_option linter.unusedSimpArgs false
set_option linter.unusedVariables false
namespace Go.Proofs.YtgkjdgolffnagaaGreatDoor
open Go.RowKit

/-- The schema of a node of words, as it is while a value is looked at. -/
structure Sch (w : World) (p : Nat) (u : Bool) (loc : ByteArray) (rq mp mt mx mr ms : Nat) : Prop where
  s : w.heap[p]? = some (.cells (schema false 0 2020 loc (.pointer none) (.slice (some ⟨rq, 0, none⟩) 0 0) (some mp) (some mt) (some mx) (some mr) (some ms) u) 114 (0, 0))
  p : w.heap[mp]? = some (.map #[] 0)
  t : w.heap[mt]? = some (.map #[] 0)
  x : w.heap[mx]? = some (.map #[] 0)
  r : w.heap[mr]? = some (.map #[] 0)
  d : w.heap[ms]? = some (.map #[] 0)
theorem Sch.ext {w w' : World} {p : Nat} {u : Bool} {loc : ByteArray} {rq mp mt mx mr ms : Nat} (h : Sch w p u loc rq mp mt mx mr ms) (e : Ext w w') : Sch w' p u loc rq mp mt mx mr ms :=
  ⟨box_ext h.s e, box_ext h.p e, box_ext h.t e, box_ext h.x e, box_ext h.r e, box_ext h.d e⟩

section
variable (x : Value) (a : Addr) (c p s n : Nat) (er : Value) (q : Nat) (w : World) (u : Bool) (loc : ByteArray) (rq mp mt mx mr ms : Nat)
def Quiet (w : World) (e : Ending) (w' : World) : Prop := e = .returned (.tuple #[]) ∧ w' = w

set_option maxRecDepth 100000 in
theorem min_zero (m : Nat) (w : World) : Calls Tryz.prog 181 #[.int .i64 0, .int .i64 m] w fun e w' => e = .returned (.int .i64 0) ∧ w' = w := by
  by_cases hm : 0 < m
  · have h : decide ((0 : Int) < (m : Int)) = true := by simpa using hm
    go_enter Tryz.func181, Tryz.ntmps181
    go_wp2_with fail
    go_ret
    exact ⟨rfl, rfl⟩
  · have h : m = 0 := by omega
    subst h
    go_enter Tryz.func181, Tryz.ntmps181
    go_wp2_with fail
    go_ret
    exact ⟨rfl, rfl⟩

set_option maxHeartbeats 4000000 in
set_option maxRecDepth 100000 in
theorem str_c (hq : w.heap[q]? = some (.cells (vd x a c p s n er) 179 (0, 0))) (hs : Sch w p u loc rq mp mt mx mr ms) (t : ByteArray) :
    Calls Tryz.prog 148 #[.pointer (some ⟨q, 0, none⟩), .string t] w (Quiet w) := by
  have f := box_cell hq 2
  have g := box_cell hs.s
  clear hq hs
  unfold vd at f
  unfold schema at g
  go_enter Tryz.func148, Tryz.ntmps148
  go_wp2_with fail
  go_end0
  exact ⟨rfl, rfl⟩

set_option maxHeartbeats 4000000 in
set_option maxRecDepth 100000 in
theorem cond_c (hq : w.heap[q]? = some (.cells (vd x a c p s n er) 179 (0, 0))) (hs : Sch w p u loc rq mp mt mx mr ms) :
    Calls Tryz.prog 149 #[.pointer (some ⟨q, 0, none⟩)] w (Quiet w) := by
  have f := box_cell hq 2
  have g := box_cell hs.s
  clear hq hs
  unfold vd at f
  unfold schema at g
  go_enter Tryz.func149, Tryz.ntmps149
  go_wp2_with fail
  go_end0
  exact ⟨rfl, rfl⟩
end

set_option maxHeartbeats 4000000 in
set_option maxRecDepth 100000 in
theorem unevalv_c {x : Value} (a : Addr) (c p s n : Nat) (er : Value) (q : Nat) (w : World) (u : Bool) (loc : ByteArray) (rq mp mt mx mr ms : Nat) {N : Nat → Prop} {v : JV} {w0 : World} (h : Any w0 N x v)
    (hq : w.heap[q]? = some (.cells (vd x a c p s n er) 179 (0, 0))) (hs : Sch w p u loc rq mp mt mx mr ms) :
    Calls Tryz.prog 150 #[.pointer (some ⟨q, 0, none⟩)] w (Quiet w) := by
  have a1 := y108; have a2 := y112
  have b1 := fun v w => n108 112 v w (by decide); have b2 := fun v w => n108 4 v w (by decide); have b3 := fun v w => n108 9 v w (by decide)
  have b5 := fun v w => n112 4 v w (by decide); have b6 := fun v w => n112 9 v w (by decide); have b7 := fun v w => n112 108 v w (by decide)
  have d1 := l108; have d2 := l112
  have f := box_cell hq
  have g := box_cell hs.s
  clear hq hs
  unfold vd at f
  unfold schema at g
  cases h
  all_goals
    go_enter Tryz.func150, Tryz.ntmps150
    go_wp2_with fail
    go_end0
    exact ⟨rfl, rfl⟩

end Go.Proofs.YtgkjdgolffnagaaGreatDoor
