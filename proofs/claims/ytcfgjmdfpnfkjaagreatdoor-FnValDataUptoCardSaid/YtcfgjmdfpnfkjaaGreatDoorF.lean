/- Parts of the proof of the statement that this folder hands in: lemmas and contracts (F). -/
import Derived.Test.YtcfgjmdfpnfkjaaGreatDoorC
import Derived.IntWalk
import Derived.Deep.RegionLaw
set_option linter.unusedSimpArgs false
set_option linter.unusedVariables false
set_option linter.unusedSimpArgs false
namespace Go.Proofs.YtcfgjmdfpnfkjaaGreatDoor
open Go.RowKit

/-- A lexer's cells. -/
abbrev lx (tb N cap a : Nat) (tv : Value) (sure : Bool) (seen : Nat) (line fr : Int) : Array Value :=
  #[.slice (some ⟨tb, 0, none⟩) N cap, .int .i64 a, tv, .bool sure, .int .i64 seen, .int .i64 line, .int .i64 fr]
/-- The runes that a lexer reads. -/
def Runes (w : World) (tb N : Nat) : Prop := ∃ cur, w.heap[tb]? = some (.cells cur 21 (0, 0)) ∧ ∀ i, i < N → ∃ r : Int, cur[i]? = some (.int .i32 r) ∧ 0 ≤ r ∧ r ≤ 1114111
/-- A byte that a number may hold. -/
def nmC (c : Nat) : Bool := (decide (48 ≤ c) && decide (c ≤ 57)) || (c == 43 || c == 45 || c == 46 || c == 69 || c == 101)
/-- A text of such bytes. -/
def NumS (s : ByteArray) : Prop := ∀ c ∈ s.data.toList, nmC c.toNat = true
structure Tk where
  kind : Int
  val : ByteArray
  a : Int
  b : Int
  c : Int
  d : Int
  ok : kind = 16 ∨ kind = 17 → NumS val
def Tk.cells (t : Tk) : List Value := [.int .i64 t.kind, .string t.val, .int .i64 t.a, .int .i64 t.b, .int .i64 t.c, .int .i64 t.d]
/-- Where a lexer lies. -/
structure LS (W0 : World) (B1 b tb N cap : Nat) : Prop where
  hb : W0.heap.size ≤ b
  ht : W0.heap.size ≤ tb
  b1 : b < B1
  t1 : tb < B1
  ne : b ≠ tb
  n8 : N ≤ 1048576
  nc : N ≤ cap
/-- A lexer's state. -/
structure LX (W0 : World) (B1 b tb N cap : Nat) (w : World) (a tc : Nat) (tv : Value) (sure : Bool) (seen : Nat) (line fr : Int) : Prop where
  cells : w.heap[b]? = some (.cells (lx tb N cap a tv sure seen line fr) 101 (0, 0))
  runes : Runes w tb N
  toks : ∃ l : List Tk, l.length = tc ∧ w.ownsRow B1 67 6 tv tc (l.flatMap Tk.cells)
  seenN : seen ≤ N
  tcN : tc ≤ N
  aN : a ≤ N + 8
  size : B1 ≤ w.heap.size
  ext : Ext W0 w
theorem LX.drew {W0 B1 b tb N cap w a tc tv sure seen line fr} (h : LX W0 B1 b tb N cap w a tc tv sure seen line fr) (n : Nat) : LX W0 B1 b tb N cap (w.drewN n) a tc tv sure seen line fr :=
  ⟨h.cells, h.runes, h.toks, h.seenN, h.tcN, h.aN, h.size, h.ext.drewN n⟩

theorem rune_at {w : World} {tb N : Nat} (h : Runes w tb N) {i : Nat} (hi : i < N) : ∃ r : Int, w.cell? ⟨tb, i, none⟩ = some (.int .i32 r) ∧ 0 ≤ r ∧ r ≤ 1114111 := by
  obtain ⟨cur, h1, h2⟩ := h
  obtain ⟨r, h3, h4⟩ := h2 i hi
  exact ⟨r, by rw [box_cell h1]; exact h3, h4⟩

def PeekRes (N p : Nat) (w : World) (e : Ending) (w' : World) : Prop := ∃ (r : Int) (n : Nat), e = .returned (.int .i32 r) ∧ 0 ≤ r ∧ r ≤ 1114111 ∧ (1 ≤ r → p < N) ∧ w' = w.drewN n

section
variable {W0 : World} {B1 b tb N cap : Nat} {w : World} {a tc : Nat} {tv : Value} {sure : Bool} {seen : Nat} {line fr : Int}
set_option maxHeartbeats 1000000 in
theorem peek_c (hS : LS W0 B1 b tb N cap) (h : LX W0 B1 b tb N cap w a tc tv sure seen line fr) (on : Nat) (hon : on ≤ 3) :
    Calls Tryz.prog 53 #[.pointer (some ⟨b, 0, none⟩), .int .i64 on] w (PeekRes N (a + on) w) := by
  have f := box_cell h.cells
  have haN := h.aN
  have hN := hS.n8
  by_cases hp : a + on < N
  · obtain ⟨r, er, hr0, hr1⟩ := rune_at h.runes hp
    have hw1 : IntKind.i64.wrap ((a : Int) + (on : Int)) = ((a + on : Nat) : Int) := by rw [IntWalk.i64_in _ (by omega)]; omega
    have hp' : decide (a + on < N) = true := by simpa using hp
    clear h hS
    go_enter Tryz.func53, Tryz.ntmps53
    go_wp2_with fail
    go_quiet (fail)
    go_wp2_with fail
    go_quiet (fail)
    go_wp2_with fail
    go_ret
    exact ⟨r, _, rfl, hr0, hr1, fun _ => hp, World.drewN_drewN _ _ _⟩
  · have hw1 : IntKind.i64.wrap ((a : Int) + (on : Int)) = ((a + on : Nat) : Int) := by rw [IntWalk.i64_in _ (by omega)]; omega
    have hp' : decide (a + on < N) = false := by simpa using hp
    clear h hS
    go_enter Tryz.func53, Tryz.ntmps53
    go_wp2_with fail
    go_quiet (fail)
    go_wp2_with fail
    go_ret
    exact ⟨0, _, rfl, by omega, by omega, fun h => by omega, rfl⟩

/-- The state behind 'lines'. -/
def LinesTo (W0 : World) (B1 b tb N cap a tc : Nat) (tv : Value) (sure : Bool) (e : Ending) (w' : World) : Prop :=
  e = .returned (.tuple #[]) ∧ ∃ seen line fr, LX W0 B1 b tb N cap w' a tc tv sure seen line fr
theorem LX.set {W0 B1 b tb N cap w a tc tv sure seen line fr} (h : LX W0 B1 b tb N cap w a tc tv sure seen line fr) (hS : LS W0 B1 b tb N cap) {a' : Nat} {sure' : Bool} {seen' : Nat} {line' fr' : Int} (i : Nat) (v : Value)
    (hc : (lx tb N cap a tv sure seen line fr).setIfInBounds i v = lx tb N cap a' tv sure' seen' line' fr') (h1 : seen' ≤ N) (h4 : a' ≤ N + 8) :
    LX W0 B1 b tb N cap (w.setCell ⟨b, i, none⟩ v) a' tc tv sure' seen' line' fr' := by
  refine ⟨by rw [← hc]; exact box_set h.cells _ _, ?_, ?_, h1, h.tcN, h4, by simpa using h.size, h.ext.setCell hS.hb _⟩
  · obtain ⟨cur, r1, r2⟩ := h.runes
    exact ⟨cur, box_other r1 _ (fun e => hS.ne e.symm) _, r2⟩
  · obtain ⟨l, l1, l2⟩ := h.toks
    exact ⟨l, l1, ownsRow_setCell_below l2 hS.b1 _⟩

set_option maxHeartbeats 4000000 in
set_option maxRecDepth 100000 in
theorem linesM_c (hS : LS W0 B1 b tb N cap) (h : LX W0 B1 b tb N cap w a tc tv sure seen line fr) (up : Nat) (hto : up ≤ N) :
    Calls Tryz.prog 82 #[.pointer (some ⟨b, 0, none⟩), .int .i64 up] w (LinesTo W0 B1 b tb N cap a tc tv sure) := by
  have H := Sd.mk h
  have HS := Sd.mk hS
  have hN := hS.n8
  have hsN := h.seenN
  clear h hS
  go_enter Tryz.func82, Tryz.ntmps82
  go_wp2_with fail
  go_loopg [] (N - seen) (fun g wr => ∃ (seen : Nat) (line fr : Int), g + seen = N ∧ Sd (LX W0 B1 b tb N cap wr a tc tv sure seen line fr))
  case atStart => exact ⟨seen, line, fr, by omega, H⟩
  case round =>
    obtain ⟨seen', line', fr', hg, HX⟩ := hrel
    clear H
    have f := box_cell HX.out.cells
    have fz := box_frozen HX.out.cells
    by_cases hlt : seen' < up
    · obtain ⟨r, er, hr0, hr1⟩ := rune_at HX.out.runes (show seen' < N by omega)
      have hp' : decide (seen' < N) = true := by simp; omega
      have hw1 : IntKind.i64.wrap ((seen' : Int) + 1) = (seen' : Int) + 1 := by rw [IntWalk.i64_in _ (by omega)]
      have hw2 : (0 : Int) ≤ (seen' : Int) + 1 := by omega
      have hw3 : ((seen' : Int) + 1).toNat = seen' + 1 := by omega
      have hcase : ((r == 13) = false ∧ ((r == 10) = true ∨ (r == 10) = false)) ∨ ((r == 13) = true ∧ ¬ seen' + 1 < N) ∨ ((r == 13) = true ∧ seen' + 1 < N ∧ ∃ r2 : Int, wr.cell? ⟨tb, seen' + 1, none⟩ = some (.int .i32 r2) ∧ ((r2 == 10) = true ∨ (r2 == 10) = false)) := by
        cases q : (r == 13)
        · refine Or.inl ⟨rfl, ?_⟩
          cases q : (r == 10) <;> simp
        · by_cases h : seen' + 1 < N
          · obtain ⟨r2, e2, _, _⟩ := rune_at HX.out.runes h
            refine Or.inr (Or.inr ⟨rfl, h, r2, e2, ?_⟩)
            cases q : (r2 == 10) <;> simp
          · exact Or.inr (Or.inl ⟨rfl, h⟩)
      rcases hcase with ⟨q13, q10 | q10⟩ | ⟨q13, hl⟩ | ⟨q13, hl, r2, er2, q10 | q10⟩
      · go_wp2_with fail
        go_quiet (fail)
        go_wp2_with fail
        go_quiet (fail)
        go_wp2_with fail
        go_region_law (fail)
        all_goals
          go_wp2_with fail
          go_roundg (N - (seen' + 1))
          case measure => omega
          case rel => exact ⟨seen' + 1, _, _, by omega, ⟨(((HX.out.drew _).set HS.out 5 _ rfl (by omega) HX.out.aN).set HS.out 6 _ rfl (by omega) HX.out.aN).set HS.out 4 _ rfl (by omega) HX.out.aN⟩⟩
      · go_wp2_with fail
        go_quiet (fail)
        go_wp2_with fail
        go_quiet (fail)
        go_wp2_with fail
        go_roundg (N - (seen' + 1))
        case measure => omega
        case rel => exact ⟨seen' + 1, line', fr', by omega, ⟨(HX.out.drew _).set HS.out 4 _ rfl (by omega) HX.out.aN⟩⟩
      · have q10' : (r == 10) = false := by (have := eq_of_beq q13); subst this; rfl
        have hl' : decide (seen' + 1 < N) = false := by simpa using hl
        have hl2 : decide ((seen' : Int) + 1 < (N : Int)) = false := by simp; omega
        go_wp2_with fail
        go_quiet (fail)
        go_wp2_with fail
        go_quiet (fail)
        go_wp2_with fail
        go_region_law (fail)
        all_goals
          go_wp2_with fail
          go_roundg (N - (seen' + 1))
          case measure => omega
          case rel => exact ⟨seen' + 1, _, _, by omega, ⟨(((HX.out.drew _).set HS.out 5 _ rfl (by omega) HX.out.aN).set HS.out 6 _ rfl (by omega) HX.out.aN).set HS.out 4 _ rfl (by omega) HX.out.aN⟩⟩
      · have q10' : (r == 10) = false := by (have := eq_of_beq q13); subst this; rfl
        have hl' : decide (seen' + 1 < N) = true := by simpa using hl
        have hl2 : decide ((seen' : Int) + 1 < (N : Int)) = true := by simp; omega
        go_wp2_with fail
        go_quiet (fail)
        go_wp2_with fail
        go_quiet (fail)
        go_wp2_with fail
        go_roundg (N - (seen' + 1))
        case measure => omega
        case rel => exact ⟨seen' + 1, line', fr', by omega, ⟨(HX.out.drew _).set HS.out 4 _ rfl (by omega) HX.out.aN⟩⟩
      · have q10' : (r == 10) = false := by (have := eq_of_beq q13); subst this; rfl
        have hl' : decide (seen' + 1 < N) = true := by simpa using hl
        have hl2 : decide ((seen' : Int) + 1 < (N : Int)) = true := by simp; omega
        go_wp2_with fail
        go_quiet (fail)
        go_wp2_with fail
        go_quiet (fail)
        go_wp2_with fail
        go_region_law (fail)
        all_goals
          go_wp2_with fail
          go_roundg (N - (seen' + 1))
          case measure => omega
          case rel => exact ⟨seen' + 1, _, _, by omega, ⟨(((HX.out.drew _).set HS.out 5 _ rfl (by omega) HX.out.aN).set HS.out 6 _ rfl (by omega) HX.out.aN).set HS.out 4 _ rfl (by omega) HX.out.aN⟩⟩
    · go_wp2_with fail
      go_end0
      exact ⟨rfl, seen', line', fr', HX.out⟩
end

end Go.Proofs.YtcfgjmdfpnfkjaaGreatDoor
