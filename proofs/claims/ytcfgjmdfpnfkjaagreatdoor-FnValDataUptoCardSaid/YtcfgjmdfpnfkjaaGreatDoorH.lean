/- Parts of the proof of the statement that this folder hands in: lemmas and contracts (H). -/
import Derived.Test.YtcfgjmdfpnfkjaaGreatDoorF
import Derived.Test.YtcfgjmdfpnfkjaaGreatDoorD
set_option linter.unusedSimpArgs false
set_option linter.unusedVariables false
set_option linter.unusedSimpArgs false
namespace Go.Proofs.YtcfgjmdfpnfkjaaGreatDoor
open Go.RowKit

/-- A lexer somewhere, its tokens counted. -/
def LA (W0 : World) (B1 b tb N cap : Nat) (w : World) (a tc : Nat) : Prop := ∃ tv sure seen line fr, LX W0 B1 b tb N cap w a tc tv sure seen line fr
/-- A bool; where it is true the lexer stands within the text. -/
def Went (W0 : World) (B1 b tb N cap a tc : Nat) (e : Ending) (w' : World) : Prop :=
  ∃ (ok : Bool) (a' : Nat), e = .returned (.bool ok) ∧ a ≤ a' ∧ (ok = true → a < a' ∧ a' ≤ N) ∧ a' ≤ N + 8 ∧ LA W0 B1 b tb N cap w' a' tc
/-- Of what was there only block b may have turned. -/
def Only (b : Nat) (w w' : World) : Prop := w.heap.size ≤ w'.heap.size ∧ ∀ k, k < w.heap.size → k ≠ b → w'.heap[k]? = w.heap[k]?
theorem Only.refl (b : Nat) (w : World) : Only b w w := ⟨Nat.le_refl _, fun _ _ _ => rfl⟩
theorem Only.drew {b : Nat} {w w' : World} (h : Only b w w') (n : Nat) : Only b w (w'.drewN n) := h
theorem Only.set {b : Nat} {w w' : World} (h : Only b w w') (i : Nat) (v : Value) : Only b w (w'.setCell ⟨b, i, none⟩ v) :=
  ⟨by simpa using h.1, fun k hk hne => (Below.heap_setCell _ _ _ _ hne).trans (h.2 k hk hne)⟩
theorem Only.trans {b : Nat} {w w' w'' : World} (h : Only b w w') (k : Only b w' w'') : Only b w w'' :=
  ⟨Nat.le_trans h.1 k.1, fun i hi hne => (k.2 i (Nat.lt_of_lt_of_le hi h.1) hne).trans (h.2 i hi hne)⟩
def EscRes (W0 : World) (B1 b tb N cap a tc : Nat) (tv : Value) (seen : Nat) (line fr : Int) (w : World) (e : Ending) (w' : World) : Prop :=
  ∃ (ok : Bool) (r : Int) (a' : Nat), e = .returned (.tuple #[.int .i32 r, .bool ok]) ∧ (ok = true → a' ≤ N) ∧ a < a' ∧ a' ≤ N + 8 ∧ (∃ sure', LX W0 B1 b tb N cap w' a' tc tv sure' seen line fr) ∧ Only b w w'

section
variable {W0 : World} {B1 b tb N cap : Nat} {w : World} {a tc : Nat} {tv : Value} {sure : Bool} {seen : Nat} {line fr : Int}

set_option maxHeartbeats 4000000 in
set_option maxRecDepth 100000 in
theorem digits_c (hS : LS W0 B1 b tb N cap) (h : LX W0 B1 b tb N cap w a tc tv sure seen line fr) (ha : a ≤ N) :
    Calls Tryz.prog 83 #[.pointer (some ⟨b, 0, none⟩)] w (Went W0 B1 b tb N cap a tc) := by
  have HS := Sd.mk hS
  have HX0 := Sd.mk h
  have hN := hS.n8
  have f := box_cell h.cells
  clear h hS
  go_enter Tryz.func83, Tryz.ntmps83
  go_wp2_with fail
  clear f
  go_loopg [] (N - a) (fun g wr => ∃ (a' : Nat), g + a' = N ∧ a ≤ a' ∧ Sd (LX W0 B1 b tb N cap wr a' tc tv sure seen line fr))
  case atStart => exact ⟨a, by omega, by omega, HX0⟩
  case round =>
    obtain ⟨a', hg, ha', HX⟩ := hrel
    clear HX0
    have f := box_cell HX.out.cells
    have fz := box_frozen HX.out.cells
    go_wp2_with fail
    refine (peek_c HS.out HX.out 0 (by omega)).mono ?_
    rintro e w1 ⟨r, n, rfl, hr0, hr1, hrN, rfl⟩
    have HRN := Sd.mk hrN
    clear hrN
    go_wp2_with fail
    refine (isDigit_c _ _).mono ?_
    rintro e w2 ⟨q, rfl, hq, rfl⟩
    have HQ := Sd.mk hq
    clear hq
    cases q
    · go_wp2_with fail
      go_ret
      refine ⟨_, a', rfl, ha', fun h => ?_, by omega, tv, sure, seen, line, fr, HX.out.drew _⟩
      simp at h
      omega
    · have hlt : a' < N := HRN.out (HQ.out rfl)
      go_wp2_with fail
      go_roundg (N - (a' + 1))
      case measure => omega
      case rel => exact ⟨a' + 1, by omega, by omega, ⟨(HX.out.drew _).set HS.out 1 _ rfl HX.out.seenN (by omega)⟩⟩

set_option maxHeartbeats 8000000 in
set_option maxRecDepth 100000 in
theorem escape_c (hS : LS W0 B1 b tb N cap) (h : LX W0 B1 b tb N cap w a tc tv sure seen line fr) (ha : a ≤ N) :
    Calls Tryz.prog 86 #[.pointer (some ⟨b, 0, none⟩)] w (EscRes W0 B1 b tb N cap a tc tv seen line fr w) := by
  have HS := Sd.mk hS
  have HX := Sd.mk h
  have hN := hS.n8
  have f := box_cell h.cells
  have fz := box_frozen h.cells
  clear h hS
  go_enter Tryz.func86, Tryz.ntmps86
  go_wp2_with fail
  refine (peek_c HS.out HX.out 0 (by omega)).mono ?_
  rintro e w1 ⟨r, n, rfl, hr0, hr1, hrN, rfl⟩
  have HRN := Sd.mk hrN
  have HX1 := Sd.mk ((HX.out.drew n).set HS.out 1 (.int .i64 ((a : Int) + 1)) (a' := a + 1) rfl HX.out.seenN (by omega))
  have HO1 : Sd (Only b w ((w.drewN n).setCell ⟨b, 1, none⟩ (.int .i64 ((a : Int) + 1)))) := ⟨((Only.refl b w).drew n).set 1 _⟩
  clear hrN
  by_cases hz : r = 0
  · subst hz
    go_wp2_with fail
    go_ret2
    exact ⟨false, _, a + 1, rfl, (fun h => by cases h), by omega, by omega, ⟨sure, HX1.out⟩, HO1.out⟩
  · have haN : a + 1 ≤ N := by have := HRN.out (by omega); omega
    have HZ := Sd.mk hz
    clear hz
    go_wp2_with fail
    all_goals try
      (go_ret2
       exact ⟨_, _, a + 1, rfl, fun _ => haN, by omega, by omega, ⟨sure, HX1.out⟩, HO1.out⟩)
    have f1 := box_cell HX1.out.cells
    have fz1 := box_frozen HX1.out.cells
    generalize (w.drewN n).setCell ⟨b, 1, none⟩ (.int .i64 ((a : Int) + 1)) = wx at HX1 f1 fz1 HO1
    refine (peek_c HS.out HX1.out 0 (by omega)).mono ?_
    rintro e w2 ⟨r2, n2, rfl, hr20, hr21, hrN2, rfl⟩
    have HRN2 := Sd.mk hrN2
    clear hrN2 f fz
    cases q : (r2 == 123)
    · go_wp2_with fail
      clear f1 fz1
      have HX2 := Sd.mk (HX1.out.drew n2)
      go_loopg [5, 40] 4 (fun g v5 v40 wr => ∃ (j : Nat) (nn : Int) (a' : Nat), v40 = .int .i64 j ∧ v5 = .int .i64 nn ∧ 0 ≤ nn ∧ Sd (nn + 4194304 ≤ 4194304 * 16 ^ j) ∧ nn ≤ 274877906944 ∧ g + j = 4 ∧ a + 1 ≤ a' ∧ a' ≤ N ∧ Sd (LX W0 B1 b tb N cap wr a' tc tv sure seen line fr) ∧ Sd (Only b w wr))
      case atStart => exact ⟨0, 0, a + 1, rfl, rfl, by omega, ⟨by decide⟩, by omega, by omega, by omega, haN, HX2, ⟨HO1.out.drew _⟩⟩
      case round =>
        obtain ⟨j, nn, a', rfl, rfl, hn0, HNB, hnb, hg, ha1, ha2, HX3, HO3⟩ := hrel
        clear HX2 HX1 HO1
        have f := box_cell HX3.out.cells
        have fz := box_frozen HX3.out.cells
        by_cases hj : j < 4
        · go_wp2_with fail
          refine (peek_c HS.out HX3.out 0 (by omega)).mono ?_
          rintro e w3 ⟨r3, n3, rfl, hr30, hr31, hrN3, rfl⟩
          have HRN3 := Sd.mk hrN3
          clear hrN3
          go_wp2_with fail
          refine (hex_c _ _ hr30 hr31).mono ?_
          rintro e w4 ⟨hx, hx0, hx1, hx2, rfl, rfl⟩
          have HH := Sd.mk hx2
          clear hx2
          by_cases hneg : hx < 0
          · go_wp2_with fail
            go_ret2
            exact ⟨false, _, a', rfl, (fun h => by cases h), by omega, by omega, ⟨sure, HX3.out.drew _⟩, HO3.out.drew _⟩
          · have haN3 : a' + 1 ≤ N := by have := HRN3.out (HH.out (by omega)); omega
            have hb2 : 16 * nn + hx + 4194304 ≤ 4194304 * 16 ^ (j + 1) := by have := HNB.out; rw [Int.pow_succ]; omega
            have hb3 : (16 : Int) ^ (j + 1) ≤ 16 ^ 4 := by
              have : j = 0 ∨ j = 1 ∨ j = 2 ∨ j = 3 := by omega
              rcases this with rfl | rfl | rfl | rfl <;> decide
            have hb4 : 16 * nn + hx ≤ 274877906944 := by omega
            have HB2 := Sd.mk hb2
            clear hb2 hb3
            go_wp2_with fail
            go_roundg (4 - (j + 1))
            case measure => omega
            case rel => exact ⟨j + 1, _, a' + 1, by go_num, rfl, by omega, HB2, hb4, by omega, by omega, haN3, ⟨(HX3.out.drew _).set HS.out 1 _ rfl HX3.out.seenN (by omega)⟩, ⟨(HO3.out.drew _).set 1 _⟩⟩
        · go_wp2_with fail
          all_goals
            go_ret2
            first
              | exact ⟨true, _, a', rfl, (fun _ => ha2), by omega, by omega, ⟨sure, HX3.out⟩, HO3.out⟩
              | exact ⟨true, _, a', rfl, (fun _ => ha2), by omega, by omega, ⟨false, HX3.out.set HS.out 3 _ rfl HX3.out.seenN (by omega)⟩, HO3.out.set 3 _⟩
    · go_wp2_with fail
      go_ret2
      exact ⟨false, _, a + 1, rfl, (fun h => by cases h), by omega, by omega, ⟨_, (HX1.out.drew _).set HS.out 3 _ rfl HX1.out.seenN (by omega)⟩, (HO1.out.drew _).set 3 _⟩
end

end Go.Proofs.YtcfgjmdfpnfkjaaGreatDoor
