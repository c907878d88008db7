/- Parts of the proof of the statement that this folder hands in: lemmas and contracts (I). -/
import Derived.Test.YtcfgjmdfpnfkjaaGreatDoorH
import Derived.Laws.Cover4
set_option linter.unusedSimpArgs false
set_option linter.unusedVariables false
set_option linter.unusedSimpArgs false
namespace Go.Proofs.YtcfgjmdfpnfkjaaGreatDoor
open Go.RowKit

def PutRes (W0 : World) (B1 b tb N cap a tc : Nat) (e : Ending) (w' : World) : Prop := e = .returned (.tuple #[]) ∧ LA W0 B1 b tb N cap w' a tc
/-- What 'put' does. -/
def PutC : Prop := ∀ {W0 : World} {B1 b tb N cap : Nat} {w : World} {a tc : Nat} {tv : Value} {sure : Bool} {seen : Nat} {line fr : Int}, LS W0 B1 b tb N cap → LX W0 B1 b tb N cap w a tc tv sure seen line fr →
    ∀ (kind : Int) (val : ByteArray) (st : Nat), st ≤ N → tc < N → (kind = 16 ∨ kind = 17 → NumS val) → Calls Tryz.prog 51 #[.pointer (some ⟨b, 0, none⟩), .int .i64 kind, .string val, .int .i64 st] w (PutRes W0 B1 b tb N cap a (tc + 1))
/-- A step of the lexer: where it is true there is one token more at most, and the lexer has gone on. -/
def Tok (W0 : World) (B1 b tb N cap a tc : Nat) (e : Ending) (w' : World) : Prop :=
  ∃ (ok : Bool) (a' tc' : Nat), e = .returned (.bool ok) ∧ (ok = true → a < a' ∧ a' ≤ N) ∧ tc' ≤ tc + 1 ∧ LA W0 B1 b tb N cap w' a' tc'

/-- A piece of the runes as a string. -/
theorem piece {w : World} {tb N : Nat} (h : Runes w tb N) {st en c : Nat} (h1 : st ≤ en) (h2 : en ≤ N) : ∃ T : ByteArray, T.size ≤ 4 * N ∧
    ∀ W : World, W.heap = w.heap → (convert 99 9 (.slice (some ⟨tb, st, none⟩) (en - st) c)).run Tryz.prog W = .ok (.string T) W := by
  obtain ⟨cur, r1, r2⟩ := h
  let zs : List Int := (List.range (en - st)).map (fun j => match cur[st + j]? with | some (.int .i32 r) => r | _ => 0)
  have hl : zs.length = en - st := by simp [zs]
  refine ⟨runesBytes (zs.take (en - st)), Nat.le_trans (runesBytes_size_le _) (by simp [hl]; omega), fun W hW => run_convert_runes W 99 9 21 ⟨tb, st, none⟩ (en - st) c zs (by omega) Tryz.underlying99 Tryz.underlying21 Tryz.underlying9 ?_⟩
  intro j hj
  obtain ⟨r, e, _⟩ := r2 (st + j) (by omega)
  have ea : (⟨tb, st, none⟩ : Addr).add j = ⟨tb, st + j, none⟩ := by unfold Addr.add; split <;> simp_all
  have hc : W.cell? ⟨tb, st + j, none⟩ = cur[st + j]? := by
    have : W.heap[tb]? = some (.cells cur 21 (0, 0)) := by rw [hW]; exact r1
    exact box_cell this _
  rw [ea, hc, e]
  simp [zs, List.getD, hl ▸ hj, e, List.getElem?_range (show j < en - st by omega)]

end Go.Proofs.YtcfgjmdfpnfkjaaGreatDoor
