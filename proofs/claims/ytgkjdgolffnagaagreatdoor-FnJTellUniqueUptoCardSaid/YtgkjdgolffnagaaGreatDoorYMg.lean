/- Parts of the proof of the statement that this folder hands in: lemmas and contracts (Y, Z, Za). -/
import Derived.Test.YtgkjdgolffnagaaGreatDoorRMg
set_option linter.unusedSimpArgs false
set_option linter.unusedVariables false
namespace Go.Proofs.YtgkjdgolffnagaaGreatDoor
open Go.RowKit

/-- An assertion that fails, whatever the zero value is. -/
theorem as_miss {P : Program} {T : TypeId} {d : TypeDesc} (hu : P.underlying T = some d) (hn : ∀ m, d ≠ .interface m) (hi : (P.info? T).map (fun i => i.zero.isSome) = some true) :
    ∃ z, ∀ D v w, D ≠ T → (Instr.typeAssert (.iface D v) 20 T true).run P w = .ok (.tuple #[z, .bool false]) w := by
  obtain ⟨i, hi, hz⟩ := Option.map_eq_some_iff.1 hi
  obtain ⟨z, hz⟩ := Option.isSome_iff_exists.1 hz
  exact ⟨z, fun D v w h => as_no hu hn hi hz h v w⟩
theorem miss337 : ∃ z, ∀ D v w, D ≠ 337 → (Instr.typeAssert (.iface D v) 20 337 true).run Tryz.prog w = .ok (.tuple #[z, .bool false]) w := as_miss Tryz.underlying337 (by simp) (by kernel_rfl)
theorem miss340 : ∃ z, ∀ D v w, D ≠ 340 → (Instr.typeAssert (.iface D v) 20 340 true).run Tryz.prog w = .ok (.tuple #[z, .bool false]) w := as_miss Tryz.underlying340 (by simp) (by kernel_rfl)
theorem miss3 : ∃ z, ∀ D v w, D ≠ 3 → (Instr.typeAssert (.iface D v) 20 3 true).run Tryz.prog w = .ok (.tuple #[z, .bool false]) w := as_miss Tryz.underlying3 (by simp) (by kernel_rfl)
theorem miss341 : ∃ z, ∀ D v w, D ≠ 341 → (Instr.typeAssert (.iface D v) 20 341 true).run Tryz.prog w = .ok (.tuple #[z, .bool false]) w := as_miss Tryz.underlying341 (by simp) (by kernel_rfl)
theorem miss342 : ∃ z, ∀ D v w, D ≠ 342 → (Instr.typeAssert (.iface D v) 20 342 true).run Tryz.prog w = .ok (.tuple #[z, .bool false]) w := as_miss Tryz.underlying342 (by simp) (by kernel_rfl)
theorem miss21 : ∃ z, ∀ D v w, D ≠ 21 → (Instr.typeAssert (.iface D v) 20 21 true).run Tryz.prog w = .ok (.tuple #[z, .bool false]) w := as_miss Tryz.underlying21 (by simp) (by kernel_rfl)
theorem miss2 : ∃ z, ∀ D v w, D ≠ 2 → (Instr.typeAssert (.iface D v) 20 2 true).run Tryz.prog w = .ok (.tuple #[z, .bool false]) w := as_miss Tryz.underlying2 (by simp) (by kernel_rfl)
theorem miss229 : ∃ z, ∀ D v w, D ≠ 229 → (Instr.typeAssert (.iface D v) 20 229 true).run Tryz.prog w = .ok (.tuple #[z, .bool false]) w := as_miss Tryz.underlying229 (by simp) (by kernel_rfl)
theorem miss5 : ∃ z, ∀ D v w, D ≠ 5 → (Instr.typeAssert (.iface D v) 20 5 true).run Tryz.prog w = .ok (.tuple #[z, .bool false]) w := as_miss Tryz.underlying5 (by simp) (by kernel_rfl)
theorem miss343 : ∃ z, ∀ D v w, D ≠ 343 → (Instr.typeAssert (.iface D v) 20 343 true).run Tryz.prog w = .ok (.tuple #[z, .bool false]) w := as_miss Tryz.underlying343 (by simp) (by kernel_rfl)
theorem miss321 : ∃ z, ∀ D v w, D ≠ 321 → (Instr.typeAssert (.iface D v) 20 321 true).run Tryz.prog w = .ok (.tuple #[z, .bool false]) w := as_miss Tryz.underlying321 (by simp) (by kernel_rfl)
theorem miss323 : ∃ z, ∀ D v w, D ≠ 323 → (Instr.typeAssert (.iface D v) 20 323 true).run Tryz.prog w = .ok (.tuple #[z, .bool false]) w := as_miss Tryz.underlying323 (by simp) (by kernel_rfl)

set_option maxHeartbeats 1000000 in
set_option maxRecDepth 100000 in
theorem typeOf_c {w : World} {N : Nat → Prop} {x : Value} {v : JV} (h : Any w N x v) : Calls Tryz.prog 138 #[x] w fun e w' => (∃ t : Int, e = .returned (.int .i64 t) ∧ t ≠ 0) ∧ w' = w := by
  have a1 := y108; have a2 := y112; have a3 := y4; have a4 := y9
  have b1 := fun v w => n108 112 v w (by decide)
  have b5 := fun v w => n112 108 v w (by decide)
  have b7 := fun v w => n4 108 v w (by decide); have b8 := fun v w => n4 112 v w (by decide); have b9 := fun v w => n4 9 v w (by decide)
  have b10 := fun v w => n9 108 v w (by decide); have b11 := fun v w => n9 112 v w (by decide)
  obtain ⟨z337, h337⟩ := miss337
  have m337_108 := fun v w => h337 108 v w (by decide)
  have m337_112 := fun v w => h337 112 v w (by decide)
  have m337_9 := fun v w => h337 9 v w (by decide)
  clear h337
  obtain ⟨z340, h340⟩ := miss340
  have m340_108 := fun v w => h340 108 v w (by decide)
  have m340_112 := fun v w => h340 112 v w (by decide)
  have m340_9 := fun v w => h340 9 v w (by decide)
  clear h340
  obtain ⟨z3, h3⟩ := miss3
  have m3_108 := fun v w => h3 108 v w (by decide)
  have m3_112 := fun v w => h3 112 v w (by decide)
  have m3_9 := fun v w => h3 9 v w (by decide)
  clear h3
  obtain ⟨z341, h341⟩ := miss341
  have m341_108 := fun v w => h341 108 v w (by decide)
  have m341_112 := fun v w => h341 112 v w (by decide)
  have m341_9 := fun v w => h341 9 v w (by decide)
  clear h341
  obtain ⟨z342, h342⟩ := miss342
  have m342_108 := fun v w => h342 108 v w (by decide)
  have m342_112 := fun v w => h342 112 v w (by decide)
  have m342_9 := fun v w => h342 9 v w (by decide)
  clear h342
  obtain ⟨z21, h21⟩ := miss21
  have m21_108 := fun v w => h21 108 v w (by decide)
  have m21_112 := fun v w => h21 112 v w (by decide)
  have m21_9 := fun v w => h21 9 v w (by decide)
  clear h21
  obtain ⟨z2, h2⟩ := miss2
  have m2_108 := fun v w => h2 108 v w (by decide)
  have m2_112 := fun v w => h2 112 v w (by decide)
  have m2_9 := fun v w => h2 9 v w (by decide)
  clear h2
  obtain ⟨z229, h229⟩ := miss229
  have m229_108 := fun v w => h229 108 v w (by decide)
  have m229_112 := fun v w => h229 112 v w (by decide)
  have m229_9 := fun v w => h229 9 v w (by decide)
  clear h229
  obtain ⟨z5, h5⟩ := miss5
  have m5_108 := fun v w => h5 108 v w (by decide)
  have m5_112 := fun v w => h5 112 v w (by decide)
  have m5_9 := fun v w => h5 9 v w (by decide)
  clear h5
  obtain ⟨z343, h343⟩ := miss343
  have m343_108 := fun v w => h343 108 v w (by decide)
  have m343_112 := fun v w => h343 112 v w (by decide)
  have m343_9 := fun v w => h343 9 v w (by decide)
  clear h343
  obtain ⟨z321, h321⟩ := miss321
  have m321_108 := fun v w => h321 108 v w (by decide)
  have m321_112 := fun v w => h321 112 v w (by decide)
  have m321_9 := fun v w => h321 9 v w (by decide)
  clear h321
  obtain ⟨z323, h323⟩ := miss323
  have m323_108 := fun v w => h323 108 v w (by decide)
  have m323_112 := fun v w => h323 112 v w (by decide)
  have m323_9 := fun v w => h323 9 v w (by decide)
  clear h323
  cases h
  all_goals
    go_enter Tryz.func138, Tryz.ntmps138
    go_wp2_with fail
    go_ret
    exact ⟨⟨_, rfl, by decide⟩, rfl⟩

end Go.Proofs.YtgkjdgolffnagaaGreatDoor
set_option linter.unusedVariables false
namespace Go.Proofs.YtgkjdgolffnagaaGreatDoor
open Go.RowKit

theorem cycle_c (q : Nat) (a : Value) (w : World) (hq : w.heap[q]? = some (.cells #[a, .string ⟨#[]⟩, .int .i64 0, .pointer none] 175 (0, 0))) :
    Calls Tryz.prog 136 #[.pointer (some ⟨q, 0, none⟩)] w fun e w' => e = .returned (.pointer none) ∧ w' = w := by
  have f := box_cell hq
  clear hq
  go_enter Tryz.func136, Tryz.ntmps136
  go_wp2_with fail
  go_loop [3] (fun v => v = .pointer none) (fun _ => 0)
  case atStart => rfl
  case round =>
    subst hrel
    go_wp2_with fail
    go_ret
    exact ⟨rfl, rfl⟩

end Go.Proofs.YtgkjdgolffnagaaGreatDoor
set_option linter.unusedVariables false
namespace Go.Proofs.YtgkjdgolffnagaaGreatDoor
open Go.RowKit

theorem wp_build' {P : Program} {o : Oper} {a : Act} {w : World} {K : Act → World → Prop} {Q : Exit → Act → World → Prop} (t : TypeId) (parts : Array (Nat × Operand)) (ho : o.op = .build t parts) (cells : Array Value)
    (hr : ∀ w, (Instr.build t (parts.map fun (i, x) => (i, a.eval x))).run P w = .ok (.agg cells) w) (h : K (a.put o.dst (.agg cells)) w) : o.wp P a w K Q := by
  unfold Oper.wp execOp
  simp only [ho, Sem.run_bind, hr, Result.andThen_ok]
  exact h
theorem build260 (w : World) : (Instr.build 260 #[]).run Tryz.prog w = .ok (.agg #[.map none, .map none]) w := run_build w 260 _ _ (by kernel_rfl)

set_option maxHeartbeats 1000000 in
set_option maxRecDepth 100000 in
theorem uneval_c (loc : ByteArray) (bl rq : Value) (mp mt mx mr ms : Option Nat) (u : Bool) (p : Nat) {w : World} {N : Nat → Prop} {x : Value} {v : JV} (h : Any w N x v)
    (hp : w.heap[p]? = some (.cells (schema false 0 2020 loc bl rq mp mt mx mr ms u) 114 (0, 0))) :
    Calls Tryz.prog 97 #[x, .pointer (some ⟨p, 0, none⟩), .bool false] w fun e w' => e = .returned (.pointer (some ⟨w.heap.size, 0, none⟩)) ∧ w' = w.alloc (.cells #[.map none, .map none] 260) := by
  have a1 := y108; have a2 := y112
  have b1 := fun v w => n108 112 v w (by decide); have b2 := fun v w => n108 4 v w (by decide); have b3 := fun v w => n108 9 v w (by decide)
  have b5 := fun v w => n112 4 v w (by decide); have b6 := fun v w => n112 9 v w (by decide)
  have d1 := l108; have d2 := l112
  have hbd := build260
  have f := box_cell (box_keep hp (.cells #[.map none, .map none] 260))
  clear hp
  unfold schema at f
  cases h
  all_goals
    go_enter Tryz.func97, Tryz.ntmps97
    go_wp2_with fail
    go_ret
    exact ⟨rfl, rfl⟩

end Go.Proofs.YtgkjdgolffnagaaGreatDoor
