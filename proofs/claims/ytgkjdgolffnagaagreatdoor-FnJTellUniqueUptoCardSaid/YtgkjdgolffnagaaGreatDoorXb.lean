/- Parts of the proof of the statement that this folder hands in: lemmas and contracts (Xb). -/
import Derived.Test.YtgkjdgolffnagaaGreatDoorKbMg
import Derived.LoopN
import Derived.Deep.RegionLaw
import Derived.Deep.AppendLies
set_option linter.unusedSimpArgs false
set_option linter.unusedVariables false
namespace Go.Proofs.YtgkjdgolffnagaaGreatDoor
open Go.RowKit

theorem q182 (D v w) (h : D ≠ 182) : (Instr.typeAssert (.iface D v) 121 182 true).run Tryz.prog w = .ok (.tuple #[.pointer none, .bool false]) w := by
  obtain ⟨i, hi, hz⟩ := zero_of (show (Tryz.prog.info? 182).map (·.zero) = some (some (.pointer none)) by kernel_rfl)
  exact as_no Tryz.underlying182 (by simp) hi hz h v w
theorem q184 (D v w) (h : D ≠ 184) : (Instr.typeAssert (.iface D v) 121 184 true).run Tryz.prog w = .ok (.tuple #[.pointer none, .bool false]) w := by
  obtain ⟨i, hi, hz⟩ := zero_of (show (Tryz.prog.info? 184).map (·.zero) = some (some (.pointer none)) by kernel_rfl)
  exact as_no Tryz.underlying184 (by simp) hi hz h v w
theorem q187 (D v w) (h : D ≠ 187) : (Instr.typeAssert (.iface D v) 121 187 true).run Tryz.prog w = .ok (.tuple #[.pointer none, .bool false]) w := by
  obtain ⟨i, hi, hz⟩ := zero_of (show (Tryz.prog.info? 187).map (·.zero) = some (some (.pointer none)) by kernel_rfl)
  exact as_no Tryz.underlying187 (by simp) hi hz h v w
theorem q190 (D v w) (h : D ≠ 190) : (Instr.typeAssert (.iface D v) 121 190 true).run Tryz.prog w = .ok (.tuple #[.pointer none, .bool false]) w := by
  obtain ⟨i, hi, hz⟩ := zero_of (show (Tryz.prog.info? 190).map (·.zero) = some (some (.pointer none)) by kernel_rfl)
  exact as_no Tryz.underlying190 (by simp) hi hz h v w
theorem q193 (D v w) (h : D ≠ 193) : (Instr.typeAssert (.iface D v) 121 193 true).run Tryz.prog w = .ok (.tuple #[.pointer none, .bool false]) w := by
  obtain ⟨i, hi, hz⟩ := zero_of (show (Tryz.prog.info? 193).map (·.zero) = some (some (.pointer none)) by kernel_rfl)
  exact as_no Tryz.underlying193 (by simp) hi hz h v w
theorem q196 (D v w) (h : D ≠ 196) : (Instr.typeAssert (.iface D v) 121 196 true).run Tryz.prog w = .ok (.tuple #[.pointer none, .bool false]) w := by
  obtain ⟨i, hi, hz⟩ := zero_of (show (Tryz.prog.info? 196).map (·.zero) = some (some (.pointer none)) by kernel_rfl)
  exact as_no Tryz.underlying196 (by simp) hi hz h v w
theorem q198 (D v w) (h : D ≠ 198) : (Instr.typeAssert (.iface D v) 121 198 true).run Tryz.prog w = .ok (.tuple #[.pointer none, .bool false]) w := by
  obtain ⟨i, hi, hz⟩ := zero_of (show (Tryz.prog.info? 198).map (·.zero) = some (some (.pointer none)) by kernel_rfl)
  exact as_no Tryz.underlying198 (by simp) hi hz h v w
theorem q202 (D v w) (h : D ≠ 202) : (Instr.typeAssert (.iface D v) 121 202 true).run Tryz.prog w = .ok (.tuple #[.pointer none, .bool false]) w := by
  obtain ⟨i, hi, hz⟩ := zero_of (show (Tryz.prog.info? 202).map (·.zero) = some (some (.pointer none)) by kernel_rfl)
  exact as_no Tryz.underlying202 (by simp) hi hz h v w
theorem q205 (D v w) (h : D ≠ 205) : (Instr.typeAssert (.iface D v) 121 205 true).run Tryz.prog w = .ok (.tuple #[.pointer none, .bool false]) w := by
  obtain ⟨i, hi, hz⟩ := zero_of (show (Tryz.prog.info? 205).map (·.zero) = some (some (.pointer none)) by kernel_rfl)
  exact as_no Tryz.underlying205 (by simp) hi hz h v w
theorem q208 (D v w) (h : D ≠ 208) : (Instr.typeAssert (.iface D v) 121 208 true).run Tryz.prog w = .ok (.tuple #[.pointer none, .bool false]) w := by
  obtain ⟨i, hi, hz⟩ := zero_of (show (Tryz.prog.info? 208).map (·.zero) = some (some (.pointer none)) by kernel_rfl)
  exact as_no Tryz.underlying208 (by simp) hi hz h v w
theorem q212 (D v w) (h : D ≠ 212) : (Instr.typeAssert (.iface D v) 121 212 true).run Tryz.prog w = .ok (.tuple #[.pointer none, .bool false]) w := by
  obtain ⟨i, hi, hz⟩ := zero_of (show (Tryz.prog.info? 212).map (·.zero) = some (some (.pointer none)) by kernel_rfl)
  exact as_no Tryz.underlying212 (by simp) hi hz h v w
theorem q216 (D v w) (h : D ≠ 216) : (Instr.typeAssert (.iface D v) 121 216 true).run Tryz.prog w = .ok (.tuple #[.pointer none, .bool false]) w := by
  obtain ⟨i, hi, hz⟩ := zero_of (show (Tryz.prog.info? 216).map (·.zero) = some (some (.pointer none)) by kernel_rfl)
  exact as_no Tryz.underlying216 (by simp) hi hz h v w
theorem q219 (D v w) (h : D ≠ 219) : (Instr.typeAssert (.iface D v) 121 219 true).run Tryz.prog w = .ok (.tuple #[.pointer none, .bool false]) w := by
  obtain ⟨i, hi, hz⟩ := zero_of (show (Tryz.prog.info? 219).map (·.zero) = some (some (.pointer none)) by kernel_rfl)
  exact as_no Tryz.underlying219 (by simp) hi hz h v w
theorem q222 (D v w) (h : D ≠ 222) : (Instr.typeAssert (.iface D v) 121 222 true).run Tryz.prog w = .ok (.tuple #[.pointer none, .bool false]) w := by
  obtain ⟨i, hi, hz⟩ := zero_of (show (Tryz.prog.info? 222).map (·.zero) = some (some (.pointer none)) by kernel_rfl)
  exact as_no Tryz.underlying222 (by simp) hi hz h v w
theorem q264 (D v w) (h : D ≠ 264) : (Instr.typeAssert (.iface D v) 121 264 true).run Tryz.prog w = .ok (.tuple #[.pointer none, .bool false]) w := by
  obtain ⟨i, hi, hz⟩ := zero_of (show (Tryz.prog.info? 264).map (·.zero) = some (some (.pointer none)) by kernel_rfl)
  exact as_no Tryz.underlying264 (by simp) hi hz h v w
theorem q267 (D v w) (h : D ≠ 267) : (Instr.typeAssert (.iface D v) 121 267 true).run Tryz.prog w = .ok (.tuple #[.pointer none, .bool false]) w := by
  obtain ⟨i, hi, hz⟩ := zero_of (show (Tryz.prog.info? 267).map (·.zero) = some (some (.pointer none)) by kernel_rfl)
  exact as_no Tryz.underlying267 (by simp) hi hz h v w
theorem q272 (D v w) (h : D ≠ 272) : (Instr.typeAssert (.iface D v) 121 272 true).run Tryz.prog w = .ok (.tuple #[.pointer none, .bool false]) w := by
  obtain ⟨i, hi, hz⟩ := zero_of (show (Tryz.prog.info? 272).map (·.zero) = some (some (.pointer none)) by kernel_rfl)
  exact as_no Tryz.underlying272 (by simp) hi hz h v w
theorem q278 (D v w) (h : D ≠ 278) : (Instr.typeAssert (.iface D v) 121 278 true).run Tryz.prog w = .ok (.tuple #[.pointer none, .bool false]) w := by
  obtain ⟨i, hi, hz⟩ := zero_of (show (Tryz.prog.info? 278).map (·.zero) = some (some (.pointer none)) by kernel_rfl)
  exact as_no Tryz.underlying278 (by simp) hi hz h v w
theorem q283 (D v w) (h : D ≠ 283) : (Instr.typeAssert (.iface D v) 121 283 true).run Tryz.prog w = .ok (.tuple #[.pointer none, .bool false]) w := by
  obtain ⟨i, hi, hz⟩ := zero_of (show (Tryz.prog.info? 283).map (·.zero) = some (some (.pointer none)) by kernel_rfl)
  exact as_no Tryz.underlying283 (by simp) hi hz h v w
theorem q286 (D v w) (h : D ≠ 286) : (Instr.typeAssert (.iface D v) 121 286 true).run Tryz.prog w = .ok (.tuple #[.pointer none, .bool false]) w := by
  obtain ⟨i, hi, hz⟩ := zero_of (show (Tryz.prog.info? 286).map (·.zero) = some (some (.pointer none)) by kernel_rfl)
  exact as_no Tryz.underlying286 (by simp) hi hz h v w
theorem q295 (D v w) (h : D ≠ 295) : (Instr.typeAssert (.iface D v) 121 295 true).run Tryz.prog w = .ok (.tuple #[.pointer none, .bool false]) w := by
  obtain ⟨i, hi, hz⟩ := zero_of (show (Tryz.prog.info? 295).map (·.zero) = some (some (.pointer none)) by kernel_rfl)
  exact as_no Tryz.underlying295 (by simp) hi hz h v w
theorem q298 (D v w) (h : D ≠ 298) : (Instr.typeAssert (.iface D v) 121 298 true).run Tryz.prog w = .ok (.tuple #[.pointer none, .bool false]) w := by
  obtain ⟨i, hi, hz⟩ := zero_of (show (Tryz.prog.info? 298).map (·.zero) = some (some (.pointer none)) by kernel_rfl)
  exact as_no Tryz.underlying298 (by simp) hi hz h v w
theorem q300 (D v w) (h : D ≠ 300) : (Instr.typeAssert (.iface D v) 121 300 true).run Tryz.prog w = .ok (.tuple #[.pointer none, .bool false]) w := by
  obtain ⟨i, hi, hz⟩ := zero_of (show (Tryz.prog.info? 300).map (·.zero) = some (some (.pointer none)) by kernel_rfl)
  exact as_no Tryz.underlying300 (by simp) hi hz h v w
theorem q302 (D v w) (h : D ≠ 302) : (Instr.typeAssert (.iface D v) 121 302 true).run Tryz.prog w = .ok (.tuple #[.pointer none, .bool false]) w := by
  obtain ⟨i, hi, hz⟩ := zero_of (show (Tryz.prog.info? 302).map (·.zero) = some (some (.pointer none)) by kernel_rfl)
  exact as_no Tryz.underlying302 (by simp) hi hz h v w
theorem q304 (D v w) (h : D ≠ 304) : (Instr.typeAssert (.iface D v) 121 304 true).run Tryz.prog w = .ok (.tuple #[.pointer none, .bool false]) w := by
  obtain ⟨i, hi, hz⟩ := zero_of (show (Tryz.prog.info? 304).map (·.zero) = some (some (.pointer none)) by kernel_rfl)
  exact as_no Tryz.underlying304 (by simp) hi hz h v w
theorem q306 (D v w) (h : D ≠ 306) : (Instr.typeAssert (.iface D v) 121 306 true).run Tryz.prog w = .ok (.tuple #[.pointer none, .bool false]) w := by
  obtain ⟨i, hi, hz⟩ := zero_of (show (Tryz.prog.info? 306).map (·.zero) = some (some (.pointer none)) by kernel_rfl)
  exact as_no Tryz.underlying306 (by simp) hi hz h v w
theorem q308 (D v w) (h : D ≠ 308) : (Instr.typeAssert (.iface D v) 121 308 true).run Tryz.prog w = .ok (.tuple #[.pointer none, .bool false]) w := by
  obtain ⟨i, hi, hz⟩ := zero_of (show (Tryz.prog.info? 308).map (·.zero) = some (some (.pointer none)) by kernel_rfl)
  exact as_no Tryz.underlying308 (by simp) hi hz h v w
theorem q309 (D v w) (h : D ≠ 309) : (Instr.typeAssert (.iface D v) 121 309 true).run Tryz.prog w = .ok (.tuple #[.pointer none, .bool false]) w := by
  obtain ⟨i, hi, hz⟩ := zero_of (show (Tryz.prog.info? 309).map (·.zero) = some (some (.pointer none)) by kernel_rfl)
  exact as_no Tryz.underlying309 (by simp) hi hz h v w
theorem q310 (D v w) (h : D ≠ 310) : (Instr.typeAssert (.iface D v) 121 310 true).run Tryz.prog w = .ok (.tuple #[.pointer none, .bool false]) w := by
  obtain ⟨i, hi, hz⟩ := zero_of (show (Tryz.prog.info? 310).map (·.zero) = some (some (.pointer none)) by kernel_rfl)
  exact as_no Tryz.underlying310 (by simp) hi hz h v w
theorem q311 (D v w) (h : D ≠ 311) : (Instr.typeAssert (.iface D v) 121 311 true).run Tryz.prog w = .ok (.tuple #[.pointer none, .bool false]) w := by
  obtain ⟨i, hi, hz⟩ := zero_of (show (Tryz.prog.info? 311).map (·.zero) = some (some (.pointer none)) by kernel_rfl)
  exact as_no Tryz.underlying311 (by simp) hi hz h v w
theorem q312 (D v w) (h : D ≠ 312) : (Instr.typeAssert (.iface D v) 121 312 true).run Tryz.prog w = .ok (.tuple #[.pointer none, .bool false]) w := by
  obtain ⟨i, hi, hz⟩ := zero_of (show (Tryz.prog.info? 312).map (·.zero) = some (some (.pointer none)) by kernel_rfl)
  exact as_no Tryz.underlying312 (by simp) hi hz h v w
theorem p184 (v w) : (Instr.typeAssert (.iface 184 v) 121 184 true).run Tryz.prog w = .ok (.tuple #[v, .bool true]) w := as_yes Tryz.underlying184 (by simp) v w
theorem p212 (v w) : (Instr.typeAssert (.iface 212 v) 121 212 true).run Tryz.prog w = .ok (.tuple #[v, .bool true]) w := as_yes Tryz.underlying212 (by simp) v w
theorem p264 (v w) : (Instr.typeAssert (.iface 264 v) 121 264 true).run Tryz.prog w = .ok (.tuple #[v, .bool true]) w := as_yes Tryz.underlying264 (by simp) v w

set_option maxRecDepth 100000 in
theorem count_184 (v : Value) (w : World) : Calls Tryz.prog 101 #[.iface 184 v] w fun e w' => e = .returned (.tuple #[.string ⟨#[]⟩, .int .i64 0, .int .i64 0, .bool false]) ∧ w' = w := by
  have a295 := fun v w => q295 184 v w (by decide)
  have a298 := fun v w => q298 184 v w (by decide)
  have a300 := fun v w => q300 184 v w (by decide)
  have a302 := fun v w => q302 184 v w (by decide)
  have a304 := fun v w => q304 184 v w (by decide)
  have a306 := fun v w => q306 184 v w (by decide)
  go_enter Tryz.func101, Tryz.ntmps101
  go_wp2_with fail
  (try simp only [Exit.inBlock, Exit.then])
  refine bodyPost_ret (v := .tuple #[.string ⟨#[]⟩, .int .i64 0, .int .i64 0, .bool false]) (by simp [results, Tryz.results101, go_sem]) rfl ⟨rfl, rfl⟩
set_option maxRecDepth 100000 in
theorem plain_184 (v : Value) (w : World) : Calls Tryz.prog 102 #[.iface 184 v] w fun e w' => e = .returned (.string sSchema) ∧ w' = w := by
  have a272 := fun v w => q272 184 v w (by decide)
  have a184 := p184
  have a182 := fun v w => q182 184 v w (by decide)
  have a308 := fun v w => q308 184 v w (by decide)
  have a309 := fun v w => q309 184 v w (by decide)
  have a310 := fun v w => q310 184 v w (by decide)
  have a264 := fun v w => q264 184 v w (by decide)
  have a267 := fun v w => q267 184 v w (by decide)
  have a283 := fun v w => q283 184 v w (by decide)
  have a278 := fun v w => q278 184 v w (by decide)
  have a286 := fun v w => q286 184 v w (by decide)
  have a311 := fun v w => q311 184 v w (by decide)
  have a312 := fun v w => q312 184 v w (by decide)
  go_enter Tryz.func102, Tryz.ntmps102
  go_wp2_with fail
  go_ret
  exact ⟨by unfold sSchema; rfl, rfl⟩
set_option maxHeartbeats 4000000 in
set_option maxRecDepth 100000 in
theorem kindOf_184 (v : Value) (w : World) : Calls Tryz.prog 55 #[.iface 184 v] w fun e w' => e = .returned (.tuple #[.string sSchema, .string ⟨#[]⟩, .slice none 0 0, .slice none 0 0]) ∧ w' = w := by
  have a187 := fun v w => q187 184 v w (by decide)
  have a190 := fun v w => q190 184 v w (by decide)
  have a193 := fun v w => q193 184 v w (by decide)
  have a196 := fun v w => q196 184 v w (by decide)
  have a198 := fun v w => q198 184 v w (by decide)
  have a202 := fun v w => q202 184 v w (by decide)
  have a205 := fun v w => q205 184 v w (by decide)
  have a208 := fun v w => q208 184 v w (by decide)
  have a212 := fun v w => q212 184 v w (by decide)
  have a216 := fun v w => q216 184 v w (by decide)
  have a219 := fun v w => q219 184 v w (by decide)
  have a222 := fun v w => q222 184 v w (by decide)
  go_enter Tryz.func55, Tryz.ntmps55
  go_wp2_with (first | (go_at_call 101; refine (count_184 _ _).mono ?_; rintro e w' ⟨rfl, rfl⟩) | (go_at_call 102; refine (plain_184 _ _).mono ?_; rintro e w' ⟨rfl, rfl⟩))
  (try simp only [Exit.inBlock, Exit.then])
  refine bodyPost_ret (v := .tuple #[.string sSchema, .string ⟨#[]⟩, .slice none 0 0, .slice none 0 0]) (by simp [results, Tryz.results55, go_sem]) rfl ⟨rfl, rfl⟩

set_option maxRecDepth 100000 in
theorem count_264 (v : Value) (w : World) : Calls Tryz.prog 101 #[.iface 264 v] w fun e w' => e = .returned (.tuple #[.string ⟨#[]⟩, .int .i64 0, .int .i64 0, .bool false]) ∧ w' = w := by
  have a295 := fun v w => q295 264 v w (by decide)
  have a298 := fun v w => q298 264 v w (by decide)
  have a300 := fun v w => q300 264 v w (by decide)
  have a302 := fun v w => q302 264 v w (by decide)
  have a304 := fun v w => q304 264 v w (by decide)
  have a306 := fun v w => q306 264 v w (by decide)
  go_enter Tryz.func101, Tryz.ntmps101
  go_wp2_with fail
  (try simp only [Exit.inBlock, Exit.then])
  refine bodyPost_ret (v := .tuple #[.string ⟨#[]⟩, .int .i64 0, .int .i64 0, .bool false]) (by simp [results, Tryz.results101, go_sem]) rfl ⟨rfl, rfl⟩
set_option maxRecDepth 100000 in
theorem plain_264 (v : Value) (w : World) : Calls Tryz.prog 102 #[.iface 264 v] w fun e w' => e = .returned (.string sFalse) ∧ w' = w := by
  have a272 := fun v w => q272 264 v w (by decide)
  have a184 := fun v w => q184 264 v w (by decide)
  have a182 := fun v w => q182 264 v w (by decide)
  have a308 := fun v w => q308 264 v w (by decide)
  have a309 := fun v w => q309 264 v w (by decide)
  have a310 := fun v w => q310 264 v w (by decide)
  have a264 := p264
  have a267 := fun v w => q267 264 v w (by decide)
  have a283 := fun v w => q283 264 v w (by decide)
  have a278 := fun v w => q278 264 v w (by decide)
  have a286 := fun v w => q286 264 v w (by decide)
  have a311 := fun v w => q311 264 v w (by decide)
  have a312 := fun v w => q312 264 v w (by decide)
  go_enter Tryz.func102, Tryz.ntmps102
  go_wp2_with fail
  go_ret
  exact ⟨by unfold sFalse; rfl, rfl⟩
set_option maxHeartbeats 4000000 in
set_option maxRecDepth 100000 in
theorem kindOf_264 (v : Value) (w : World) : Calls Tryz.prog 55 #[.iface 264 v] w fun e w' => e = .returned (.tuple #[.string sFalse, .string ⟨#[]⟩, .slice none 0 0, .slice none 0 0]) ∧ w' = w := by
  have a187 := fun v w => q187 264 v w (by decide)
  have a190 := fun v w => q190 264 v w (by decide)
  have a193 := fun v w => q193 264 v w (by decide)
  have a196 := fun v w => q196 264 v w (by decide)
  have a198 := fun v w => q198 264 v w (by decide)
  have a202 := fun v w => q202 264 v w (by decide)
  have a205 := fun v w => q205 264 v w (by decide)
  have a208 := fun v w => q208 264 v w (by decide)
  have a212 := fun v w => q212 264 v w (by decide)
  have a216 := fun v w => q216 264 v w (by decide)
  have a219 := fun v w => q219 264 v w (by decide)
  have a222 := fun v w => q222 264 v w (by decide)
  go_enter Tryz.func55, Tryz.ntmps55
  go_wp2_with (first | (go_at_call 101; refine (count_264 _ _).mono ?_; rintro e w' ⟨rfl, rfl⟩) | (go_at_call 102; refine (plain_264 _ _).mono ?_; rintro e w' ⟨rfl, rfl⟩))
  (try simp only [Exit.inBlock, Exit.then])
  refine bodyPost_ret (v := .tuple #[.string sFalse, .string ⟨#[]⟩, .slice none 0 0, .slice none 0 0]) (by simp [results, Tryz.results55, go_sem]) rfl ⟨rfl, rfl⟩

set_option maxHeartbeats 4000000 in
set_option maxRecDepth 100000 in
theorem kindOf_212 (k : Nat) (j i : Int) (w : World) (hk : w.heap[k]? = some (.cells #[.int .i64 j, .int .i64 i] 215 (0, 0))) : Calls Tryz.prog 55 #[.iface 212 (.pointer (some ⟨k, 0, none⟩))] w fun e w' =>
    (∃ N, e = .returned (.tuple #[.string sUniq, .string ⟨#[]⟩, .slice none 0 0, .slice (some ⟨N, 0, none⟩) 2 2]) ∧ w.heap.size ≤ N ∧ w'.cell? ⟨N, 0, none⟩ = some (.int .i64 j) ∧ w'.cell? ⟨N, 1, none⟩ = some (.int .i64 i)) ∧ Ext w w' := by
  have c0 := box_cell hk 0
  have c1 := box_cell hk 1
  clear hk
  have a187 := fun v w => q187 212 v w (by decide)
  have a190 := fun v w => q190 212 v w (by decide)
  have a193 := fun v w => q193 212 v w (by decide)
  have a196 := fun v w => q196 212 v w (by decide)
  have a198 := fun v w => q198 212 v w (by decide)
  have a202 := fun v w => q202 212 v w (by decide)
  have a205 := fun v w => q205 212 v w (by decide)
  have a208 := fun v w => q208 212 v w (by decide)
  have a212 := p212
  go_enter Tryz.func55, Tryz.ntmps55
  go_wp2_with fail
  have d0 : w.drew.cell? ⟨k, 0, none⟩ = some (.int .i64 j) := c0
  have d1 : w.drew.cell? ⟨k, 1, none⟩ = some (.int .i64 i) := c1
  go_region_law (fail)
  all_goals
    go_wp2_with fail
    (try simp only [Exit.inBlock, Exit.then])
    refine bodyPost_ret (v := .tuple #[.string sUniq, .string ⟨#[]⟩, .slice none 0 0, .slice (some ⟨w.heap.size, 0, none⟩) 2 2]) (by unfold sUniq; simp [results, Tryz.results55, go_sem]) rfl ⟨⟨_, rfl, Nat.le_refl _, box_cell (box_alloc w _) 0, box_cell (box_alloc w _) 1⟩, ((Ext.refl w).alloc _).drewN 1⟩

set_option maxRecDepth 100000 in
theorem copied_empty (A : Option Addr) (c : Nat) (w : World) : Calls Tryz.prog 54 #[.slice A 0 c] w fun e w' => e = .returned (.slice (some ⟨w.heap.size, 0, none⟩) 0 0) ∧ w' = w.alloc (.cells #[] 9) := by
  obtain ⟨i0, hi, -, -, -⟩ := info_parts info9
  go_enter Tryz.func54, Tryz.ntmps54
  go_wp2_with (at_builtin; refine wpList_append_stay rfl (.tmp 3) (.tmp 4) 22 rfl 9 i0 Tryz.underlying22 hi (some ⟨w.heap.size, 0, none⟩) A 0 0 c (Nat.le_refl _) rfl rfl ?_)
  go_ret
  exact ⟨rfl, rfl⟩

set_option maxRecDepth 100000 in
theorem copied_one (P c : Nat) (y : ByteArray) (w : World) (h : w.cell? ⟨P, 0, none⟩ = some (.string y)) : Calls Tryz.prog 54 #[.slice (some ⟨P, 0, none⟩) 1 c] w fun e w' => (∃ g cap, e = .returned (.slice (some ⟨g, 0, none⟩) 1 cap) ∧ w.heap.size ≤ g ∧ w'.cell? ⟨g, 0, none⟩ = some (.string y)) ∧ Ext w w' := by
  obtain ⟨i0, hi, hz0, hz1, hz2⟩ := info_parts info9
  have H := Sd.mk h
  clear h
  go_enter Tryz.func54, Tryz.ntmps54
  go_wp2_with (at_builtin; refine wpList_append_lies _ rfl (.tmp 3) (.tmp 4) 22 rfl w.heap.size 9 i0 (.string ⟨#[]⟩) 1 16 Tryz.underlying22 hi hz0 hz1 hz2 rfl (by decide) (.slice (some ⟨w.heap.size, 0, none⟩) 0 0) 0 [] rfl ⟨rfl, .inr ⟨w.heap.size, 0, #[], rfl, Nat.le_refl _, box_alloc _ _, Nat.le_refl _, by simp [maxLen], rfl, rfl⟩⟩ ⟨P, 0, none⟩ 1 c [.string y] rfl rfl (fun j u hu => by cases j with | zero => (simp at hu; subst hu; rw [Addr.add_zero']; exact ((Ext.refl w).alloc _).cell H.out) | succ j => simp at hu) (by simp [Value.oneCell']) (by decide) (by simp [maxLen]) (by simp) (by simp) _ rfl ?_; intro g cap w1 hown hgrow hat hlt; have HO := Sd.mk hown; have HG := Sd.mk hgrow; have HB : Sd (w.heap.size ≤ g) := ⟨(by rcases hat with hb | hb; (· have hb' : some w.heap.size = some g := hb; cases hb'; exact Nat.le_refl _); (· rw [hb]; simp))⟩; clear hown hgrow hat hlt)
  go_ret
  refine ⟨⟨g, cap, rfl, HB.out, ?_⟩, Ext.over ((Ext.refl w).alloc _) HG.out (Nat.le_refl _)⟩
  have := HO.out.cells (g := g) rfl 0 _ rfl
  rw [Addr.add_zero'] at this
  exact this

set_option maxRecDepth 100000 in
theorem isort_none (g : Option Addr) (l c : Nat) (n : Int) (hn : n ≤ 1) (f : Value) (w : World) : Calls Tryz.prog 152 #[.slice g l c, .int .i64 0, .int .i64 n, f] w fun e w' => e = .returned (.tuple #[]) ∧ w' = w := by
  have h : decide ((1 : Int) < n) = false := by simp; omega
  go_enter Tryz.func152, Tryz.ntmps152
  go_wp2_with fail
  refine wp_loop_rounds 1 ?_
  rw [rounds_succ]
  go_wp2_with fail
  go_end0
  exact ⟨rfl, rfl⟩
set_option maxHeartbeats 4000000 in
set_option maxRecDepth 100000 in
theorem pdq_none (g : Option Addr) (l c : Nat) (n : Int) (h0 : 0 ≤ n) (hn : n ≤ 1) (m : Int) (f : Value) (w : World) : Calls Tryz.prog 103 #[.slice g l c, .int .i64 0, .int .i64 n, .int .i64 m, f] w fun e w' => e = .returned (.tuple #[]) ∧ w' = w := by
  have hw : IntKind.i64.wrap (n - 0) = n := by rw [IntKind.wrap_i64]; omega
  have h : decide (n ≤ 12) = true := by simp; omega
  go_enter Tryz.func103, Tryz.ntmps103
  go_wp2_with fail
  refine wp_loop_rounds 1 ?_
  rw [rounds_succ]
  go_wp2_with (go_at_call 152; refine (isort_none _ _ _ _ hn _ _).mono ?_; rintro e w' ⟨rfl, rfl⟩)
  (try simp only [Exit.inBlock, Exit.then])
  refine bodyPost_ret (v := .tuple #[]) (results_none rfl _ _ _) rfl ⟨rfl, rfl⟩
set_option maxHeartbeats 4000000 in
set_option maxRecDepth 100000 in
theorem sort_none (g : Option Addr) (c : Nat) (f : Value) (w : World) : Calls Tryz.prog 56 #[.slice g 0 c, f] w fun e w' => e = .returned (.tuple #[]) ∧ w' = w := by
  go_enter Tryz.func56, Tryz.ntmps56
  go_wp2_with (first | (go_at_call 104; go_in) | (go_at_call 161; go_in) | (go_at_call 103; refine (pdq_none _ _ _ _ (by decide) (by decide) _ _ _).mono ?_; rintro e w' ⟨rfl, rfl⟩))
  go_end0
  exact ⟨rfl, rfl⟩
set_option maxHeartbeats 4000000 in
set_option maxRecDepth 100000 in
theorem sort_one (g : Option Addr) (c : Nat) (f : Value) (w : World) : Calls Tryz.prog 56 #[.slice g 1 c, f] w fun e w' => e = .returned (.tuple #[]) ∧ w' = w := by
  go_enter Tryz.func56, Tryz.ntmps56
  go_wp2_with (first | (go_at_call 104; go_in) | (go_at_call 161; go_in) | (go_at_call 103; refine (pdq_none _ _ _ _ (by decide) (by decide) _ _ _).mono ?_; rintro e w' ⟨rfl, rfl⟩))
  go_end0
  exact ⟨rfl, rfl⟩

theorem m212 (k : Nat) (w : World) : (method 510 212 (.pointer (some ⟨k, 0, none⟩)) "KeywordPath").run Tryz.prog w = .ok (249, .pointer (some ⟨k, 0, none⟩)) w := by kernel_rfl
theorem m264 (k : Nat) (w : World) : (method 510 264 (.pointer (some ⟨k, 0, none⟩)) "KeywordPath").run Tryz.prog w = .ok (253, .pointer (some ⟨k, 0, none⟩)) w := by kernel_rfl
theorem m184 (k : Nat) (w : World) : (method 510 184 (.pointer (some ⟨k, 0, none⟩)) "KeywordPath").run Tryz.prog w = .ok (240, .pointer (some ⟨k, 0, none⟩)) w := by kernel_rfl

end Go.Proofs.YtgkjdgolffnagaaGreatDoor
