/- Parts of the proof of the statement that this folder hands in: lemmas and contracts (Zg). -/
import Derived.Test.YtgkjdgolffnagaaGreatDoorZf
import Derived.LoopN
set_option linter.unusedSimpArgs false
set_option linter.unusedVariables false
namespace Go.Proofs.YtgkjdgolffnagaaGreatDoor
open Go.RowKit
open Go.ChangeMaps (setBlock)

theorem zero69 (w : World) : (zeroValue 69).run Tryz.prog w = .ok (.pointer none) w := by kernel_rfl
theorem look_none {w : World} {b : Nat} (hb : w.heap[b]? = some (.map #[] 0)) (s : ByteArray) : (Instr.lookup 106 (.map (some b)) (.string s) true).run Tryz.prog w = .ok (.tuple #[.pointer none, .bool false]) w := by
  rcases Ents.empty.look true hb Tryz.underlying106 Tryz.underlying9 (zero69 w) s with ⟨h, _⟩ | ⟨e0, he, _⟩
  · exact h
  · exact absurd he (by simp)

set_option maxHeartbeats 8000000 in
set_option maxRecDepth 100000 in
theorem obj_c (x : Value) (a : Addr) (c p s n : Nat) (er : Value) (q : Nat) (w : World) (u : Bool) (loc : ByteArray) (rq mp mt mx mr ms : Nat)
    (hq : w.heap[q]? = some (.cells (vd x a c p s n er) 179 (0, 0))) (hs : Sch w p u loc rq mp mt mx mr ms)
    (r : Nat) (es : Array MapEntry) (clock : Nat) (F : Ents es clock) (hr : w.heap[r]? = some (.map es clock)) :
    Calls Tryz.prog 146 #[.pointer (some ⟨q, 0, none⟩), .map (some r)] w fun e w' => e = .returned (.tuple #[]) ∧ Ext w w' := by
  have HQ := Sd.mk hq
  have HS := Sd.mk hs
  have HR := Sd.mk hr
  have HF := Sd.mk F
  have f := box_cell hq
  have g := box_cell hs.s
  clear hq hs hr F
  unfold vd at f
  unfold schema at g
  go_enter Tryz.func146, Tryz.ntmps146
  go_wp2_with (first | (at_range; refine wp_range _ rfl _ 108 rfl 9 20 Tryz.underlying108 mx HS.out.x rfl ?_) | fail)
  refine wp_loop_rounds 1 ?_
  rw [rounds_succ]
  have HE0 := Sd.mk ((Ext.refl w).alloc (.mapIter (some mx) 0 #[] 0))
  go_wp2_with (first
    | (at_next; refine wp_next _ rfl _ rfl mx w.heap.size Ents.empty (box_ext HS.out.x HE0.out) (box_alloc _ _) rfl ?_ (fun e _ _ he _ _ _ _ => absurd he (by simp)); intro _)
    | (at_range; refine wp_range _ rfl _ 108 rfl 9 20 Tryz.underlying108 r (box_ext HR.out HE0.out) rfl ?_) | fail)
  have HE00 := Sd.mk (HE0.out.alloc (.mapIter (some r) clock #[] clock))
  have HI0 := Sd.mk (box_alloc2 w (.mapIter (some mx) 0 #[] 0) (.mapIter (some r) clock #[] clock))
  clear f g HE0
  (try go_frame)
  go_loopg [13] (leftN es #[]) (fun g v13 wr => ∃ seen : Array Nat, v13 = .slice none 0 0 ∧ g = leftN es seen ∧ Sd (wr.heap[w.heap.size + 1]? = some (.mapIter (some r) clock seen clock)) ∧ Sd (Ext w wr))
  case atStart => exact ⟨#[], rfl, rfl, HI0, HE00⟩
  case round =>
    obtain ⟨seen, rfl, rfl, HI, HE⟩ := hrel
    clear HI0 HE00
    have f := box_cell (box_ext HQ.out HE.out)
    have g := box_cell (HS.out.ext HE.out).s
    unfold vd at f
    unfold schema at g
    go_wp2_with (at_next; refine wp_next _ rfl _ rfl r (w.heap.size + 1) HF.out (box_ext HR.out HE.out) HI.out (by first | rfl | simp [go_sem]) ?_ ?_)
    · intro hd
      clear hd
      go_wp2_with (first | (at_range; refine wp_range _ rfl _ 106 rfl 9 69 Tryz.underlying106 ms (HS.out.ext HE.out).d rfl ?_) | fail)
      refine wp_loop_rounds 1 ?_
      rw [rounds_succ]
      have HE1 := Sd.mk (HE.out.alloc (.mapIter (some ms) 0 #[] 0))
      have f1 := box_cell (box_ext HQ.out HE1.out)
      have g1 := box_cell (HS.out.ext HE1.out).s
      unfold vd at f1
      unfold schema at g1
      go_wp2_with (first
        | (at_next; refine wp_next _ rfl _ rfl ms wr.heap.size Ents.empty (HS.out.ext HE1.out).d (box_alloc _ _) rfl ?_ (fun e _ _ he _ _ _ _ => absurd he (by simp)); intro _)
        | (at_range; refine wp_range _ rfl _ 109 rfl 9 22 Tryz.underlying109 mr (HS.out.ext HE1.out).r rfl ?_) | fail)
      refine wp_loop_rounds 1 ?_
      rw [rounds_succ]
      have HE2 := Sd.mk (HE1.out.alloc (.mapIter (some mr) 0 #[] 0))
      go_wp2_with (first
        | (at_next; refine wp_next _ rfl _ rfl mr (wr.heap.size + 1) Ents.empty (HS.out.ext HE2.out).r (by simpa using box_alloc2 wr (.mapIter (some ms) 0 #[] 0) (.mapIter (some mr) 0 #[] 0)) (by first | rfl | simp [go_sem]) ?_ (fun e _ _ he _ _ _ _ => absurd he (by simp)); intro _) | fail)
      go_end0
      exact ⟨rfl, HE2.out⟩
    · intro e w1 s he' hse hks hw1 hen
      have he : e ∈ es.toList := by simpa using he'
      clear he'
      have HW1 : Sd (Ext w w1 ∧ w1.heap = wr.heap) := by
        rcases hw1 with rfl | rfl
        · exact ⟨HE.out, rfl⟩
        · exact ⟨HE.out.drewN 1, rfl⟩
      have HE1 := Sd.mk (HW1.out.1.set (b := w.heap.size + 1) (by omega) (.mapIter (some r) clock (seen.push e.born) clock))
      have HI1 := Sd.mk (set_same (w := w1) (o := .mapIter (some r) clock (seen.push e.born) clock) (by rw [HW1.out.2]; exact HI.out))
      have HN := Sd.mk (leftN_push he hse)
      clear hw1 hse hks f g
      have f1 := box_cell (box_ext HQ.out HE1.out)
      have g1 := box_cell (HS.out.ext HE1.out).s
      have hlk := look_none (HS.out.ext HE1.out).p s
      unfold vd at f1
      unfold schema at g1
      go_wp2_with (first | (at_range; refine wp_range _ rfl _ 107 rfl 111 69 Tryz.underlying107 mt (HS.out.ext HE1.out).t rfl ?_) | fail)
      refine wp_loop_rounds 1 ?_
      rw [rounds_succ]
      have HE2 := Sd.mk (HE1.out.alloc (.mapIter (some mt) 0 #[] 0))
      have f2 := box_cell (box_ext HQ.out HE2.out)
      have g2 := box_cell (HS.out.ext HE2.out).s
      unfold vd at f2
      unfold schema at g2
      go_wp2_with (first
        | (at_next; refine wp_next _ rfl _ rfl mt _ Ents.empty (HS.out.ext HE2.out).t (box_alloc _ _) (by first | rfl | simp [go_sem]) ?_ (fun e _ _ he _ _ _ _ => absurd he (by simp)); intro _) | fail)
      go_roundg (leftN es (seen.push e.born))
      case measure => exact HN.out
      case rel => exact ⟨seen.push e.born, rfl, rfl, ⟨box_keep HI1.out _⟩, HE2⟩

end Go.Proofs.YtgkjdgolffnagaaGreatDoor
