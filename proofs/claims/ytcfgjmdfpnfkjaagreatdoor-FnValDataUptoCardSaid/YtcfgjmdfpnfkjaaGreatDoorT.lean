/- Parts of the proof of the statement that this folder hands in: lemmas and contracts (T). -/
import Derived.Test.YtcfgjmdfpnfkjaaGreatDoorS
set_option linter.unusedSimpArgs false
set_option linter.unusedVariables false
set_option linter.unusedSimpArgs false
namespace Go.Proofs.YtcfgjmdfpnfkjaaGreatDoor
open Go.RowKit

/-- The table of powers of ten lies in block 9. -/
def Pow (T : Nat → Int) (w : World) : Prop := ∀ i, i < 1392 → w.cell? ⟨9, i, none⟩ = some (.int .u64 (T i))
theorem Pow.ext {T : Nat → Int} {w w' : World} (h : Pow T w) (e : Ext w w') : Pow T w' := fun i hi => e.cell (h i hi)

set_option maxRecDepth 100000 in
theorem prescale_c (T : Nat → Int) (b q : Nat) (e lp h0 l0 s0 : Int) (w : World) (hq : q < 696) (hT : Pow T w) (h : w.heap[b]? = some (.cells #[.int .u64 h0, .int .u64 l0, .int .i64 s0] 199 (0, 0))) (hb : b ≠ 9) :
    Calls Tryz.prog 114 #[.pointer (some ⟨b, 0, none⟩), .int .i64 e, .int .i64 ((q : Int) - 348), .int .i64 lp] w fun en w' => en = .returned (.tuple #[]) ∧
      w' = ((w.setCell ⟨b, 0, none⟩ (.int .u64 (T (q * 2)))).setCell ⟨b, 1, none⟩ (.int .u64 (T (q * 2 + 1)))).setCell ⟨b, 2, none⟩ (.int .i64 (wrap64 (-(wrap64 (wrap64 (e + lp) + 3))))) := by
  have f := box_cell h
  have fz := box_frozen h
  have t0 := hT (q * 2) (by omega)
  have t1 := hT (q * 2 + 1) (by omega)
  have e1 : ((q : Int) - 348 - -348) = (q : Int) := by omega
  have hb9 : ¬ (9 = b) := fun h => hb h.symm
  clear h hT
  go_enter Tryz.func114, Tryz.ntmps114
  go_wp2_with fail
  go_end0
  exact ⟨rfl, rfl⟩

end Go.Proofs.YtcfgjmdfpnfkjaaGreatDoor
