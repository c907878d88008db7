/- Parts of the proof of the statement that this folder hands in: lemmas and contracts (Kb, Zi, Kc, Kd). -/
import Derived.Test.YtgkjdgolffnagaaGreatDoorRMg
import Derived.Test.YtgkjdgolffnagaaGreatDoorJMg
import Derived.Test.YtgkjdgolffnagaaGreatDoorZh
import Derived.StillTailTactics
import Derived.LoopN
import Derived.Deep.RegionLaw
import Derived.Deep.RegionHeld3
set_option linter.unusedSimpArgs false
set_option linter.unusedVariables false
namespace Go.Proofs.YtgkjdgolffnagaaGreatDoor
open Go.RowKit

section
variable {P : Program} {ops : Array Oper} {S : World → Prop}
/-- A load of a whole variable, first in a region that draws. -/
theorem yieldsIf_load_row {op : Oper} {a : Act} (hw : Region.wanted op (yielded ops a.tmps) = true) (ty : TypeId) (x : Operand) (ho : op.op = .load ty x)
    (g : Nat) (hx : a.eval x = .pointer (some ⟨g, 0, none⟩)) (t : TypeId) (cs : Array Value) (fr : Nat × Nat) (d : TypeDesc) (hS : ∀ w, S w → w.heap[g]? = some (.cells cs t fr))
    (hu : P.underlying ty = some d) (hd : (match d with | .struct _ | .array _ _ => true | _ => false) = true) (hi : (P.info? ty).map (·.size) = some cs.size) : YieldsIf P ops S op (.agg cs) a :=
  .inl ⟨hw, fun w hw' => by
    unfold execOp
    simp only [ho, hx, Instr.loadAt, Instr.sureAddr, Sem.run_bind, Sem.run_pure, Result.andThen_ok, run_loadVar_row w g t ty cs fr d (hS w hw') hu hd hi]⟩
/-- An operation that is not wanted. -/
theorem yieldsIf_skip {op : Oper} {a : Act} (hw : Region.wanted op (yielded ops a.tmps) = false) : YieldsIf P ops S op undef a := .inr ⟨hw, rfl⟩
/-- A load of one cell. -/
theorem yieldsIf_load_one {op : Oper} {a : Act} (hw : Region.wanted op (yielded ops a.tmps) = true) (ty : TypeId) (x : Operand) (ho : op.op = .load ty x)
    (g i : Nat) (hx : a.eval x = .pointer (some ⟨g, i, none⟩)) (v : Value) (hS : ∀ w, S w → w.cell? ⟨g, i, none⟩ = some v)
    (hagg : ∀ w, (isAgg ty).run P w = .ok false w) : YieldsIf P ops S op v a :=
  .inl ⟨hw, fun w hw' => by
    unfold execOp
    simp [ho, hx, Instr.loadAt, Instr.sureAddr, loadVar, Sem.run_bind, hagg, hS w hw']⟩
end

/-- A store of a whole variable. -/
theorem store_row {w : World} {b : Nat} {t : TypeId} {cur cs : Array Value} (hb : w.heap[b]? = some (.cells cur t (0, 0))) (hs : cur.size = cs.size) :
    (w.setCells b 0 cs.toList).heap[b]? = some (.cells cs t (0, 0)) ∧ w.grownBy (w.setCells b 0 cs.toList) (some b) := by
  have gen : ∀ (vs : List Value) (o : Nat) (w : World) (pre : List Value) (post : List Value), pre.length = o → post.length = vs.length → w.heap[b]? = some (.cells (pre ++ post).toArray t (0, 0)) →
      (w.setCells b o vs).heap[b]? = some (.cells (pre ++ vs).toArray t (0, 0)) ∧ w.grownBy (w.setCells b o vs) (some b) := by
    intro vs
    induction vs with
    | nil =>
      intro o w pre post h1 h2 h3
      have : post = [] := List.eq_nil_of_length_eq_zero (by simpa using h2)
      subst this
      exact ⟨h3, ⟨rfl, rfl, rfl, Nat.le_refl _, fun _ _ _ => rfl⟩⟩
    | cons v r ih =>
      intro o w pre post h1 h2 h3
      cases post with
      | nil => simp at h2
      | cons p q =>
        have h4 : (w.setCell ⟨b, o, none⟩ v).heap[b]? = some (.cells ((pre ++ [v]) ++ q).toArray t (0, 0)) := by
          rw [box_set h3]
          congr 2
          subst h1
          simp
        obtain ⟨h5, h6⟩ := ih (o + 1) (w.setCell ⟨b, o, none⟩ v) (pre ++ [v]) q (by simp [h1]) (by simpa using h2) h4
        refine ⟨by simpa [World.setCells] using h5, ?_⟩
        have h7 : w.grownBy (w.setCell ⟨b, o, none⟩ v) (some b) := ⟨rfl, rfl, rfl, by simp [World.setCell], fun k hk hne => box_other (h := rfl) _ (by rintro rfl; exact hne rfl) _⟩
        exact h7.trans h6
  have := gen cs.toList 0 w [] cur.toList rfl (by simp [hs]) (by simpa using hb)
  simpa using this

theorem wpList_store_row {P : Program} {ops : Array Oper} {rest : List Oper} {op : Oper} {a : Act} {w : World} {Q : Exit → Act → World → Prop} (hgd : op.guard = none) (ty : TypeId) (x y : Operand) (ho : op.op = .store ty x y)
    (b : Nat) (cs cur : Array Value) (hx : a.eval x = .pointer (some ⟨b, 0, none⟩)) (hy : a.eval y = .agg cs) (t : TypeId) (hb : w.heap[b]? = some (.cells cur t (0, 0))) (hs : cur.size = cs.size)
    (hi : (P.info? ty).map (·.size) = some cs.size) (h1 : cs.all (·.oneCell') = true)
    (h : ∀ w', w'.heap[b]? = some (.cells cs t (0, 0)) → w.grownBy w' (some b) → wpList P ops Q rest (a.put op.dst undef) w') : wpList P ops Q (op :: rest) a w := by
  obtain ⟨h2, h3⟩ := store_row hb hs
  refine wpList_store_mid hgd ty x y ho b 0 cs hx hy (fun j hj => ?_) hi h1 (h _ h2 h3)
  refine ⟨?_, ?_⟩
  · rw [box_cell hb, Nat.zero_add, Array.getElem?_eq_getElem (by omega)]; rfl
  · exact box_frozen hb _

theorem wpStill_load_row {P : Program} {ops : Array Oper} {w : World} {Q : Act → Prop} {a : Act} {o : Oper} {rest : List Oper} (hgd : o.guard = none) (ty : TypeId) (x : Operand) (ho : o.op = .load ty x)
    (g : Nat) (hx : a.eval x = .pointer (some ⟨g, 0, none⟩)) (t : TypeId) (cs : Array Value) (fr : Nat × Nat) (d : TypeDesc) (hg : w.heap[g]? = some (.cells cs t fr))
    (hu : P.underlying ty = some d) (hd : (match d with | .struct _ | .array _ _ => true | _ => false) = true) (hi : (P.info? ty).map (·.size) = some cs.size)
    (h : wpStill P ops w Q rest (a.put o.dst (.agg cs))) : wpStill P ops w Q (o :: rest) a := by
  refine wpStill_step fun K hK => ?_
  rw [if_pos (by simp [Region.wanted, hgd])]
  unfold Oper.still execOp
  simp only [ho, hx, Instr.loadAt, Instr.sureAddr, Sem.run_bind, Sem.run_pure, Result.andThen_ok, run_loadVar_row w g t ty cs fr d hg hu hd hi, Oper.stillUpon_value]
  exact hK _ h

theorem box_at {w : World} {b : Nat} {o : Obj} (h : b = w.heap.size) : (w.alloc o).heap[b]? = some o := by subst h; exact box_alloc w o
theorem Ext.over {a w w' : World} {p : Nat} (h : Ext a w) (g : w.grownBy w' (some p)) (hp : a.heap.size ≤ p) : Ext a w' :=
  ⟨g.os.trans h.os, g.tape.trans h.tape, g.output.trans h.output, Nat.le_trans h.size g.size, fun k hk => by rw [g.block k (Nat.lt_of_lt_of_le hk h.size) (by simp; omega)]; exact h.block k hk⟩
theorem u44 : ∃ fs, Tryz.prog.underlying 44 = some (.struct fs) := ⟨_, Tryz.underlying44⟩
theorem n44 (k : Int) (u : Bool) : (Tryz.prog.info? 44).map (·.size) = some (node k u).size := s44
theorem o44 (k : Int) (u : Bool) : (node k u).all (·.oneCell') = true := by simp [node, Value.oneCell']
theorem c44 (u : Bool) : (node 0 false).size = (node 0 u).size := rfl
end Go.Proofs.YtgkjdgolffnagaaGreatDoor
set_option linter.unusedVariables false
namespace Go.Proofs.YtgkjdgolffnagaaGreatDoor
open Go.RowKit

theorem Ext.drew1 {a b : World} (h : Ext a b) : Ext a b.drew := h.drewN 1
theorem box_drew {w : World} {b : Nat} {o : Obj} (h : w.heap[b]? = some o) : w.drew.heap[b]? = some o := h
/-- The validator is laid. -/
def VdAt (x : Value) (p : Nat) (w : World) (v : Value) (wx : World) : Prop :=
  ∃ q ad c s n, v = .pointer (some ⟨q, 0, none⟩) ∧ Sd (wx.heap[q]? = some (.cells (vd x ad c p s n (.slice none 0 0)) 179 (0, 0))) ∧ Sd (wx.heap[s]? = some (.cells #[.pointer (some ⟨p, 0, none⟩), .string ⟨#[]⟩, .int .i64 0, .pointer none] 175 (0, 0))) ∧ Sd (w.heap.size ≤ q) ∧ Sd (Ext w wx)

theorem VdAt.of {x : Value} {p : Nat} {w wx : World} {q : Nat} {ad : Addr} {c s n : Nat} (h1 : wx.heap[q]? = some (.cells (vd x ad c p s n (.slice none 0 0)) 179 (0, 0))) (h2 : wx.heap[s]? = some (.cells #[.pointer (some ⟨p, 0, none⟩), .string ⟨#[]⟩, .int .i64 0, .pointer none] 175 (0, 0)))
    (h3 : w.heap.size ≤ q) (h4 : Ext w wx) : VdAt x p w (.pointer (some ⟨q, 0, none⟩)) wx := ⟨q, ad, c, s, n, rfl, ⟨h1⟩, ⟨h2⟩, ⟨h3⟩, ⟨h4⟩⟩
theorem make_strs : ∃ cs, ∀ w : World, (Instr.makeSlice 22 (.int .i64 0) (.int .i64 8)).run Tryz.prog w = .ok (.slice (some ⟨w.heap.size, 0, none⟩) 0 8) (w.alloc (.cells cs 9)) := by
  obtain ⟨i0, hi, hz0, hz1, hz2⟩ := info_parts info9
  exact ⟨_, fun w => run_make w 22 9 i0 _ Tryz.underlying22 hi hz0 .i64 .i64 0 8 (by decide) (by decide) (by rw [hz2]; decide) (by decide)⟩
/-- What the validator's own function leaves, whatever the schema. -/
def Out98 (loc : ByteArray) (A : Prop) (B : Value → World → Prop) (w : World) (e : Ending) (w' : World) : Prop :=
  (A ∧ (∃ y, e = .returned (.tuple #[y, .nilIface])) ∧ Ext w w') ∨
    ∃ D k g y, D ≠ 182 ∧ B (.iface D (.pointer (some ⟨k, 0, none⟩))) w' ∧ e = .returned (.tuple #[y, .iface 71 (.pointer (some ⟨g, 0, none⟩))]) ∧ ErrAt w' loc (.iface D (.pointer (some ⟨k, 0, none⟩))) g ∧ Ext w w'

/-- The error that is handed out: a head with one cause. -/
def TopAt (w : World) (loc : ByteArray) (B : Value → World → Prop) (G : Nat) : Prop :=
  ∃ K h D k g, w.heap[G]? = some (.cells #[.string loc, .slice none 0 0, .iface 184 (.pointer (some ⟨K, 0, none⟩)), .slice (some ⟨h, 0, none⟩) 1 1] 124 (0, 0)) ∧ w.cell? ⟨h, 0, none⟩ = some (.pointer (some ⟨g, 0, none⟩)) ∧
    ErrAt w loc (.iface D (.pointer (some ⟨k, 0, none⟩))) g ∧ B (.iface D (.pointer (some ⟨k, 0, none⟩))) w
def Out52 (loc : ByteArray) (A : Prop) (B : Value → World → Prop) (w : World) (e : Ending) (w' : World) : Prop :=
  Ext w w' ∧ ((A ∧ e = .returned .nilIface) ∨ ∃ G, e = .returned (.iface 71 (.pointer (some ⟨G, 0, none⟩))) ∧ TopAt w' loc B G)

end Go.Proofs.YtgkjdgolffnagaaGreatDoor
set_option linter.unusedVariables false
namespace Go.Proofs.YtgkjdgolffnagaaGreatDoor
open Go.RowKit

def sUniq : ByteArray := ⟨#[85, 110, 105, 113, 117, 101, 73, 116, 101, 109, 115]⟩
def suniq : ByteArray := ⟨#[117, 110, 105, 113, 117, 101, 73, 116, 101, 109, 115]⟩
def sSchema : ByteArray := ⟨#[83, 99, 104, 101, 109, 97]⟩
def sFalse : ByteArray := ⟨#[70, 97, 108, 115, 101, 83, 99, 104, 101, 109, 97]⟩

set_option maxRecDepth 100000 in
theorem keyword_schema (w : World) : Calls Tryz.prog 78 #[.string sSchema] w fun e w' => e = .returned (.string ⟨#[]⟩) ∧ w' = w := by
  unfold sSchema
  go_enter Tryz.func78, Tryz.ntmps78
  go_wp2_with fail
  go_ret
  exact ⟨rfl, rfl⟩
set_option maxRecDepth 100000 in
theorem keyword_false (w : World) : Calls Tryz.prog 78 #[.string sFalse] w fun e w' => e = .returned (.string ⟨#[]⟩) ∧ w' = w := by
  unfold sFalse
  go_enter Tryz.func78, Tryz.ntmps78
  go_wp2_with fail
  go_ret
  exact ⟨rfl, rfl⟩
set_option maxRecDepth 100000 in
theorem keyword_uniq (w : World) : Calls Tryz.prog 78 #[.string sUniq] w fun e w' => e = .returned (.string suniq) ∧ Ext w w' := by
  have hE : Utf8.encode (IntKind.i32.wrap (bits .or .u8 (((⟨#[85, 110, 105, 113, 117, 101, 73, 116, 101, 109, 115]⟩ : ByteArray)[0]'(by decide)).toNat : Int) 32)) = ⟨#[117]⟩ := by kernel_rfl
  have hX : (⟨#[85, 110, 105, 113, 117, 101, 73, 116, 101, 109, 115]⟩ : ByteArray).extract 1 11 = ⟨#[110, 105, 113, 117, 101, 73, 116, 101, 109, 115]⟩ := by kernel_rfl
  unfold sUniq
  go_enter Tryz.func78, Tryz.ntmps78
  go_wp2_with fail
  go_region_law (fail)
  all_goals
    go_wp2_with fail
    go_ret
    exact ⟨by unfold suniq; rfl, (Ext.refl _).drewN 1⟩

theorem begins_c (A : Option Addr) (l c : Nat) (B : Option Addr) (d : Nat) (w : World) : Calls Tryz.prog 43 #[.slice A l c, .slice B 0 d] w fun e w' => e = .returned (.bool true) ∧ w' = w := by
  go_enter Tryz.func43, Tryz.ntmps43
  go_wp2_with fail
  refine wp_loop_rounds 1 ?_
  rw [rounds_succ]
  go_wp2_with fail
  go_ret
  exact ⟨rfl, rfl⟩
theorem inside_c (k : Int) (b : Bool) (n : Int) (t : ByteArray) (A : Option Addr) (la c : Nat) (B : Option Addr) (lb d : Nat) (C : Option Addr) (f : Nat) (w : World) :
    Calls Tryz.prog 77 #[.agg #[.int .i64 k, .bool b, .int .i64 n, .string t, .slice A la c, .slice B lb d], .slice C 0 f] w fun e w' => e = .returned (.bool true) ∧ Ext w w' := by
  go_enter Tryz.func77, Tryz.ntmps77
  go_wp2_with fail
  refine wp_loop_rounds 1 ?_
  rw [rounds_succ]
  go_wp2_with fail
  go_ret
  exact ⟨rfl, (Ext.refl _).alloc _⟩
theorem bounded_c (m n n' : Int) (w : World) : Calls Tryz.prog 34 #[.int .i64 m, .agg #[.bool false, .int .i64 n], .agg #[.bool false, .int .i64 n']] w fun e w' => e = .returned (.bool true) ∧ Ext w w' := by
  go_enter Tryz.func34, Tryz.ntmps34
  go_wp2_with fail
  go_ret
  exact ⟨rfl, ((Ext.refl _).alloc _).alloc _⟩
theorem taken_c (t : ByteArray) (w : World) : Calls Tryz.prog 36 #[.string t, .agg #[.bool false, .slice none 0 0]] w fun e w' => e = .returned (.bool true) ∧ Ext w w' := by
  go_enter Tryz.func36, Tryz.ntmps36
  go_wp2_with fail
  go_ret
  exact ⟨rfl, (Ext.refl _).alloc _⟩

end Go.Proofs.YtgkjdgolffnagaaGreatDoor
set_option linter.unusedVariables false
namespace Go.Proofs.YtgkjdgolffnagaaGreatDoor
open Go.RowKit

set_option maxRecDepth 100000 in
theorem digits_one (w : World) : Calls Tryz.prog 84 #[.string one] w fun e w' => e = .returned (.bool true) ∧ w' = w := by
  unfold one
  go_enter Tryz.func84, Tryz.ntmps84
  go_wp2_with fail
  refine wp_loop_rounds 2 ?_
  rw [rounds_succ]
  go_wp2_with (go_at_call 126; go_in)
  rw [rounds_succ]
  go_wp2_with fail
  go_ret
  exact ⟨rfl, rfl⟩
set_option maxRecDepth 100000 in
theorem plain_one (w : World) : Calls Tryz.prog 44 #[.string one] w fun e w' => e = .returned (.bool true) ∧ w' = w := by
  have h : one.size = 1 := rfl
  go_enter Tryz.func44, Tryz.ntmps44
  go_wp2_with (go_at_call 84; refine (digits_one _).mono ?_; rintro e w' ⟨rfl, rfl⟩)
  go_ret
  exact ⟨rfl, rfl⟩
set_option maxRecDepth 100000 in
theorem number_one (w : World) : Calls Tryz.prog 45 #[.string one] w fun e w' => e = .returned (.int .i64 1) ∧ w' = w := by
  unfold one
  go_enter Tryz.func45, Tryz.ntmps45
  go_wp2_with fail
  refine wp_loop_rounds 2 ?_
  rw [rounds_succ]
  go_wp2_with fail
  rw [rounds_succ]
  go_wp2_with fail
  go_ret
  exact ⟨rfl, rfl⟩
set_option maxRecDepth 100000 in
theorem named_one (b : Nat) (w : World) : Calls Tryz.prog 23 #[.slice (some ⟨b, 0, none⟩) 1 1, .string one] w fun e w' => e = .returned (.int .i64 1) ∧ w' = w := by
  have h : one.size = 1 := rfl
  go_enter Tryz.func23, Tryz.ntmps23
  go_wp2_with (first | (go_at_call 44; refine (plain_one _).mono ?_; rintro e w' ⟨rfl, rfl⟩) | (go_at_call 45; refine (number_one _).mono ?_; rintro e w' ⟨rfl, rfl⟩))
  go_ret
  exact ⟨rfl, rfl⟩
theorem s25 : (Tryz.prog.info? 25).map (·.size) = some 6 := by kernel_rfl
/-- The six cells of a value. -/
abbrev jv (k : Int) (b : Bool) (n : Int) (t : ByteArray) (A : Option Addr) (la c : Nat) (B : Option Addr) (lb d : Nat) : Array Value := #[.int .i64 k, .bool b, .int .i64 n, .string t, .slice A la c, .slice B lb d]
theorem o25 (k : Int) (b : Bool) (n : Int) (t : ByteArray) (A : Option Addr) (la c : Nat) (B : Option Addr) (lb d : Nat) : (jv k b n t A la c B lb d).all (·.oneCell') = true := by simp [Value.oneCell']
set_option maxRecDepth 100000 in
theorem part_c (k : Int) (b : Bool) (n : Int) (t : ByteArray) (A : Option Addr) (la c : Nat) (B : Option Addr) (lb d : Nat) (C : Option Addr) (f : Nat) (w : World) :
    Calls Tryz.prog 39 #[.agg (jv k b n t A la c B lb d), .slice C 0 f] w fun e w' => e = .returned (.tuple #[.agg (jv k b n t A la c B lb d), .bool true]) ∧ Ext w w' := by
  go_enter Tryz.func39, Tryz.ntmps39
  go_wp2_with (go_at_call 77; refine (inside_c _ _ _ _ _ _ _ _ _ _ _ _ _).mono ?_; rintro e w' ⟨rfl, he⟩; have h2 := box_ext (box_keep (box_alloc w _) _) he; have h4 := box_ext (box_alloc2 w _ _) he; have HE := Sd.mk ((((Ext.refl w).alloc _).alloc _).trans he); clear he; have H2 := Sd.mk h2; have H4 := Sd.mk h4; clear h2 h4)
  refine wp_loop_rounds 1 ?_
  rw [rounds_succ]
  go_wp2_with (first
    | (refine wpList_load_row rfl 25 _ rfl w.heap.size rfl 25 (jv k b n t A la c B lb d) (0, 0) _ H2.out Tryz.underlying25 rfl s25 ?_)
    | (refine wpList_store_row rfl 25 _ _ rfl _ (jv k b n t A la c B lb d) _ rfl rfl 25 H4.out rfl s25 (o25 _ _ _ _ _ _ _ _ _ _) ?_; intro wn hn1 hn2; have HN := Sd.mk hn1; have HEn := Sd.mk (Ext.over HE.out hn2 (Nat.le_succ _)); clear hn1 hn2) | fail)

  (try simp only [Exit.inBlock, Exit.then])
  refine bodyPost_ret (v := .tuple #[.agg (jv k b n t A la c B lb d), .bool true]) ?_ rfl ⟨rfl, HEn.out⟩
  simp [results, Tryz.results39, asAddr, run_loadVar_row _ _ 25 25 _ _ _ HN.out Tryz.underlying25 rfl s25, Result.andThen]

end Go.Proofs.YtgkjdgolffnagaaGreatDoor
