/- Parts of the proof of the statement that this folder hands in: lemmas and contracts (Zb, Zc). -/
import Derived.Test.YtgkjdgolffnagaaGreatDoorYMg
set_option linter.unusedSimpArgs false
set_option linter.unusedVariables false
namespace Go.Proofs.YtgkjdgolffnagaaGreatDoor
open Go.RowKit

/-- An append of nothing, where it fits: the slice stands. -/
theorem run_append_stay {P : Program} (w : World) (t ty e : TypeId) (i : TypeInfo) (ht : P.underlying t = some (.slice e)) (hi : P.info? e = some i) (A B : Option Addr) (k c d : Nat) (hk : k ≤ c) :
    (Builtin.append_ #[t, t] ty #[.slice A k c, .slice B 0 d]).run P w = .ok (.slice A k c) w := by
  cases A <;> cases B <;> simp [Builtin.append_, run_underlying ht, sizeOf, typeInfo, hi, Builtin.lenOf, Builtin.firstCells, storeCells, loadCells, loadCellsFrom, hk]
theorem wpList_append_stay {P : Program} {w : World} {ops : Array Oper} {rest : List Oper} {o : Oper} {a : Act} {Q : Exit → Act → World → Prop} (hgd : o.guard = none) (s x : Operand) (t : TypeId)
    (ho : o.op = .call { callee := .builtin .append, args := #[s, x], argTypes := #[t, t] })
    (e : TypeId) (i : TypeInfo) (ht : P.underlying t = some (.slice e)) (hi : P.info? e = some i)
    (A B : Option Addr) (k c d : Nat) (hk : k ≤ c) (hs : a.eval s = .slice A k c) (hx : a.eval x = .slice B 0 d)
    (h : wpList P ops Q rest (a.put o.dst (.slice A k c)) w) : wpList P ops Q (o :: rest) a w := by
  refine wpList_plain hgd fun K hK => ?_
  have hrun := run_append_stay (P := P) w t o.type e i ht hi A B k c d hk
  unfold Oper.wp
  simp [execOp, ho, resolve, invoke, builtin, hs, hx, hrun, Result.andThen]
  exact hK _ _ h

theorem info9 : (Tryz.prog.info? 9).map (fun i => (i.zero, i.size, i.bytes)) = some (some (.string ⟨#[]⟩), 1, 16) := by kernel_rfl
set_option maxRecDepth 100000 in
theorem clone_c (a : Addr) (c : Nat) (w : World) : Calls Tryz.prog 206 #[.slice (some a) 0 c] w fun e w' => (∃ A c, e = .returned (.slice A 0 c)) ∧ Ext w w' := by
  obtain ⟨i0, hi, -, -, -⟩ := info_parts info9
  have hb : (binOp .eql 22 (.slice (some a) 0 c) (.slice none 0 0)).run Tryz.prog w = .ok (.bool false) w := by
    first | rfl | (simp [binOp, go_sem]; done) | (simp [binOp, equal, go_sem])
  go_enter Tryz.func206, Tryz.ntmps206
  go_wp2_with (at_builtin; refine wpList_append_stay rfl (.tmp 5) (.tmp 6) 22 rfl 9 i0 Tryz.underlying22 hi (some ⟨w.heap.size, 0, none⟩) (some a) 0 0 c (Nat.le_refl _) rfl rfl ?_)
  go_ret
  exact ⟨⟨_, _, rfl⟩, (Ext.refl _).alloc _⟩

/-- A validator's cells. -/
def vd (x : Value) (a : Addr) (c p s n : Nat) (er : Value) : Array Value := #[x, .slice (some a) 0 c, .pointer (some ⟨p, 0, none⟩), .pointer (some ⟨s, 0, none⟩), .pointer (some ⟨n, 0, none⟩), er, .bool false]

set_option maxRecDepth 100000 in
theorem inst_c (x : Value) (a : Addr) (c p s n : Nat) (er : Value) (q : Nat) (w : World) (hq : w.heap[q]? = some (.cells (vd x a c p s n er) 179 (0, 0))) :
    Calls Tryz.prog 172 #[.pointer (some ⟨q, 0, none⟩)] w fun e w' => (∃ A c, e = .returned (.slice A 0 c)) ∧ Ext w w' := by
  have f := box_cell hq
  clear hq
  unfold vd at f
  go_enter Tryz.func172, Tryz.ntmps172
  go_wp2_with (go_at_call 206; refine (clone_c _ _ _).mono ?_; rintro e w' ⟨⟨A, c1, rfl⟩, he⟩; have HE := Sd.mk he; clear he)
  go_ret
  exact ⟨⟨_, _, rfl⟩, HE.out⟩

end Go.Proofs.YtgkjdgolffnagaaGreatDoor
set_option linter.unusedVariables false
namespace Go.Proofs.YtgkjdgolffnagaaGreatDoor
open Go.RowKit

/-- An error with a kind stands in block g. -/
def ErrAt (w : World) (loc : ByteArray) (kx : Value) (g : Nat) : Prop := ∃ A c, w.heap[g]? = some (.cells #[.string loc, .slice A 0 c, kx, .slice none 0 0] 124 (0, 0))
theorem ErrAt.ext {w w' : World} {loc : ByteArray} {kx : Value} {g : Nat} (h : ErrAt w loc kx g) (e : Ext w w') : ErrAt w' loc kx g := let ⟨A, c, h⟩ := h; ⟨A, c, box_ext h e⟩
def ErrRes (loc : ByteArray) (kx : Value) (w : World) (e : Ending) (w' : World) : Prop := ∃ g, e = .returned (.pointer (some ⟨g, 0, none⟩)) ∧ w.heap.size ≤ g ∧ ErrAt w' loc kx g ∧ Ext w w'

set_option maxHeartbeats 1000000 in
set_option maxRecDepth 100000 in
theorem error_c (x : Value) (a : Addr) (c p s n : Nat) (er : Value) (q : Nat) (w : World) (hq : w.heap[q]? = some (.cells (vd x a c p s n er) 179 (0, 0)))
    (loc : ByteArray) (fl : Bool) (nn d : Int) (bl rq : Value) (mp mt mx mr ms : Option Nat) (u : Bool) (hp : w.heap[p]? = some (.cells (schema fl nn d loc bl rq mp mt mx mr ms u) 114 (0, 0))) (D k : Nat) :
    Calls Tryz.prog 135 #[.pointer (some ⟨q, 0, none⟩), .iface D (.pointer (some ⟨k, 0, none⟩))] w (ErrRes loc (.iface D (.pointer (some ⟨k, 0, none⟩))) w) := by
  have f := box_cell hq
  have HQ := Sd.mk hq
  have f4 := box_cell hp 4
  clear hq hp
  unfold vd at f
  unfold schema at f4
  go_enter Tryz.func135, Tryz.ntmps135
  go_upto_region 3 with (fail)
  have e2 : w.drew.cell? ⟨q, 2, none⟩ = some (.pointer (some ⟨p, 0, none⟩)) := f 2
  have e4 : w.drew.cell? ⟨p, 4, none⟩ = some (.string loc) := f4
  go_region_held3 (fun w' => w'.cell? ⟨q, 2, none⟩ = some (.pointer (some ⟨p, 0, none⟩)) ∧ w'.cell? ⟨p, 4, none⟩ = some (.string loc)) (go_keep) (first | (go_at_call 172; refine (inst_c _ _ _ _ _ _ _ _ w.drew HQ.out).mono ?_; rintro e w' ⟨⟨A1, c1, rfl⟩, he⟩; have k2 := he.cell e2; have k4 := he.cell e4; have HE := Sd.mk ((Ext.drewN (Ext.refl w) 1).trans he); clear he))
  all_goals
    go_wp2_with fail
    go_ret
    exact ⟨_, rfl, by simpa using HE.out.size, ⟨_, _, box_alloc _ _⟩, HE.out.alloc _⟩

end Go.Proofs.YtgkjdgolffnagaaGreatDoor
