/- Parts of the proof of the statement that this folder hands in: lemmas and contracts (U). -/
import Derived.Test.YtgkjdgolffnagaaGreatDoorRMg
set_option linter.unusedSimpArgs false
set_option linter.unusedVariables false
namespace Go.Proofs.YtgkjdgolffnagaaGreatDoor
open Go.RowKit

/-- What set leaves. -/
def SetRes (u : Bool) (w : World) (p : Nat) (e : Ending) (w' : World) : Prop :=
  e = .returned (.tuple #[]) ∧ ∃ rq mp mt mx mr md, w'.heap[mp]? = some (.map #[] 0) ∧ w'.heap[mt]? = some (.map #[] 0) ∧ w'.heap[mx]? = some (.map #[] 0) ∧ w'.heap[mr]? = some (.map #[] 0) ∧ w'.heap[md]? = some (.map #[] 0) ∧
    w'.heap[p]? = some (.cells (schema false 0 2020 ⟨#[]⟩ (.pointer none) (.slice (some ⟨rq, 0, none⟩) 0 0) (some mp) (some mt) (some mx) (some mr) (some md) u) 114 (0, 0)) ∧ w.grownBy w' (some p)
theorem limit_h {w0 : World} {p : Nat} {nd cs : Array Value} {ms : List Nat} (n : Int) (w : World) (h : At w0 p nd cs ms w) : Calls Tryz.prog 91 #[.agg #[.bool false, .int .i64 n]] w fun e w' => e = .returned (.pointer none) ∧ At w0 p nd cs ms w' := by
  have H := Sd.mk h
  clear h
  go_enter Tryz.func91, Tryz.ntmps91
  go_wp2_with fail
  go_ret
  exact ⟨rfl, H.out.alloc _⟩

set_option maxHeartbeats 16000000 in
set_option maxRecDepth 100000 in
theorem set_c (u : Bool) (s : Value) (p : Nat) (w : World) (hp : w.heap[p]? = some (.cells (schema false 0 0 ⟨#[]⟩ (.pointer none) (.slice none 0 0) none none none none none false) 114 (0, 0))) :
    Calls Tryz.prog 48 #[s, .pointer (some ⟨p, 0, none⟩), .agg (node 0 u), .int .i64 1, .int .i64 2020] w (SetRes u w p) := by
  have H0 := Sd.mk (At.of (nd := node 0 u) hp)
  clear hp
  have hmm := @run_makeMap Tryz.prog
  have f1 := box_cell H0.out.s
  have f2 := box_frozen H0.out.s
  have f3 := box_cell H0.out.n
  have f4 : w.heap.size < w.heap.size + 1 := by omega
  have g9 := H0.out.lt
  have g0 : p < w.heap.size + 1 := by have := H0.out.lt; omega
  have g1 : p < w.heap.size + 1 + 1 := by omega
  have g2 : p < w.heap.size + 1 + 1 + 1 := by omega
  have g3 : p < w.heap.size + 1 + 1 + 1 + 1 := by omega
  have h1 : w.heap.size < w.heap.size + 1 + 1 := by omega
  have h2 : w.heap.size < w.heap.size + 1 + 1 + 1 := by omega
  have h3 : w.heap.size < w.heap.size + 1 + 1 + 1 + 1 := by omega
  have k2 : w.heap.size < w.heap.size + 1 + 2 := by omega
  have k3 : w.heap.size < w.heap.size + 1 + 3 := by omega
  have k4 : p < w.heap.size + 1 + 2 := by omega
  have k5 : p < w.heap.size + 1 + 3 := by omega
  have e1 : w.heap.size ≤ w.heap.size + 1 := by omega
  have e2 : w.heap.size ≤ w.heap.size + 1 + 1 := by omega
  have e3 : w.heap.size ≤ w.heap.size + 1 + 1 + 1 := by omega
  have e4 : w.heap.size ≤ w.heap.size + 1 + 2 := by omega
  have e5 : p ≤ w.heap.size + 1 := by omega
  have e6 : p ≤ w.heap.size + 1 + 1 := by omega
  have e7 : p ≤ w.heap.size + 1 + 1 + 1 := by omega
  have e8 : p ≤ w.heap.size + 1 + 2 := by omega
  unfold schema at f1
  unfold node at f1 f2 f3 ⊢
  go_enter Tryz.func48, Tryz.ntmps48
  go_upto_region 1 with (fail)
  go_cut [] from 19 to 22 (fun wx => Sd (At w p (node 0 u) (schema false 0 2020 ⟨#[]⟩ (.pointer none) (.slice none 0 0) none none none none none false) [] wx))
  case first => as_aux_lemma =>
    go_wp2_with fail
    go_meet
    exact ⟨by have h := H0.out.put 3 (.int .i64 2020) rfl; rw [World.setCell_alloc_past _ _ _ _ g9] at h; exact h⟩
  case rest => as_aux_lemma =>
  clear f1 f2 f3 f4 g0 g1 g2 g3 h1 h2 h3 k2 k3 k4 k5 e1 e2 e3 e4 e5 e6 e7 e8 g9 H0
  have H0 := hcut
  clear hcut
  have f1 := box_cell H0.out.s
  have f2 := box_frozen H0.out.s
  have f3 := box_cell H0.out.n
  have f4 := H0.out.size
  have g0 : p < wc.heap.size := by have := H0.out.lt; omega
  have g1 : p < wc.heap.size + 1 := by omega
  have g2 : p < wc.heap.size + 1 + 1 := by omega
  have g3 : p < wc.heap.size + 1 + 1 + 1 := by omega
  have h1 : w.heap.size < wc.heap.size + 1 := by omega
  have h2 : w.heap.size < wc.heap.size + 1 + 1 := by omega
  have h3 : w.heap.size < wc.heap.size + 1 + 1 + 1 := by omega
  have k2 : w.heap.size < wc.heap.size + 2 := by omega
  have k3 : w.heap.size < wc.heap.size + 3 := by omega
  have k4 : p < wc.heap.size + 2 := by omega
  have k5 : p < wc.heap.size + 3 := by omega
  have e1 : w.heap.size ≤ wc.heap.size := by omega
  have e2 : w.heap.size ≤ wc.heap.size + 1 := by omega
  have e3 : w.heap.size ≤ wc.heap.size + 1 + 1 := by omega
  have e4 : w.heap.size ≤ wc.heap.size + 2 := by omega
  have e5 : p ≤ wc.heap.size := by omega
  have e6 : p ≤ wc.heap.size + 1 := by omega
  have e7 : p ≤ wc.heap.size + 1 + 1 := by omega
  have e8 : p ≤ wc.heap.size + 2 := by omega
  unfold schema at f1
  unfold node at f3
  go_upto_region 5 with (fail)
  go_cut [] from 37 to 44 (fun wx => Sd (At w p (node 0 u) (schema false 0 2020 ⟨#[]⟩ (.pointer none) (.slice none 0 0) none none none none none false) [] wx))
  case first => as_aux_lemma =>
    go_wp2_with (go_at_call 51; refine (at_none _ _ _ _ (by decide)).mono ?_; rintro e w' ⟨rfl, rfl⟩)
    go_meet
    exact ⟨by repeat (first | exact H0.out | apply At.drew | apply At.alloc | refine At.stay ?_ rfl)⟩
  case rest => as_aux_lemma =>
  clear f1 f2 f3 f4 g0 g1 g2 g3 h1 h2 h3 k2 k3 k4 k5 e1 e2 e3 e4 e5 e6 e7 e8 H0
  have H0 := hcut
  clear hcut
  have f1 := box_cell H0.out.s
  have f2 := box_frozen H0.out.s
  have f3 := box_cell H0.out.n
  have f4 := H0.out.size
  have g0 : p < wc.heap.size := by have := H0.out.lt; omega
  have g1 : p < wc.heap.size + 1 := by omega
  have g2 : p < wc.heap.size + 1 + 1 := by omega
  have g3 : p < wc.heap.size + 1 + 1 + 1 := by omega
  have h1 : w.heap.size < wc.heap.size + 1 := by omega
  have h2 : w.heap.size < wc.heap.size + 1 + 1 := by omega
  have h3 : w.heap.size < wc.heap.size + 1 + 1 + 1 := by omega
  have k2 : w.heap.size < wc.heap.size + 2 := by omega
  have k3 : w.heap.size < wc.heap.size + 3 := by omega
  have k4 : p < wc.heap.size + 2 := by omega
  have k5 : p < wc.heap.size + 3 := by omega
  have e1 : w.heap.size ≤ wc.heap.size := by omega
  have e2 : w.heap.size ≤ wc.heap.size + 1 := by omega
  have e3 : w.heap.size ≤ wc.heap.size + 1 + 1 := by omega
  have e4 : w.heap.size ≤ wc.heap.size + 2 := by omega
  have e5 : p ≤ wc.heap.size := by omega
  have e6 : p ≤ wc.heap.size + 1 := by omega
  have e7 : p ≤ wc.heap.size + 1 + 1 := by omega
  have e8 : p ≤ wc.heap.size + 2 := by omega
  unfold schema at f1
  unfold node at f3
  go_upto_region 6 with (fail)
  go_cut [] from 45 to 68 (fun wx => Sd (At w p (node 0 u) (schema false 0 2020 ⟨#[]⟩ (.pointer none) (.slice none 0 0) none none none none none false) [] wx))
  case first => as_aux_lemma =>
    have hk := fun (W : World) i v j => set_cell_other W (show w.heap.size ≠ p by have := H0.out.lt; omega) i j v
    have hpb : w.heap.size ≠ p := by have := H0.out.lt; omega
    go_region_held3 (fun w' => w'.cell? ⟨w.heap.size, 2, none⟩ = some (.slice none 0 0) ∧ w'.cell? ⟨w.heap.size, 3, none⟩ = some (.slice none 0 0) ∧ w'.cell? ⟨w.heap.size, 4, none⟩ = some (.slice none 0 0)) (first | (simp (disch := (first | assumption | (simp only [World.size_alloc, World.size_setCell, size_drew]; omega))) only [cell_drew, cell_past, set_cell_other, f3]; done) | (simp (disch := (first | assumption | (simp only [World.size_alloc, World.size_setCell, size_drew]; omega))) only [cell_drew, cell_past, set_cell_other, f3]; simp; done) | go_keep) (first | (go_at_call 88; refine (all_none _ _ _ _).mono ?_; rintro e w' ⟨rfl, rfl⟩))
    all_goals (go_wp2_with fail; go_meet; exact ⟨by repeat (first | exact H0.out | apply At.drew | apply At.alloc | refine At.stay ?_ rfl)⟩)
  case rest => as_aux_lemma =>
  clear f1 f2 f3 f4 g0 g1 g2 g3 h1 h2 h3 k2 k3 k4 k5 e1 e2 e3 e4 e5 e6 e7 e8 H0
  have H0 := hcut
  clear hcut
  have f1 := box_cell H0.out.s
  have f2 := box_frozen H0.out.s
  have f3 := box_cell H0.out.n
  have f4 := H0.out.size
  have g0 : p < wc.heap.size := by have := H0.out.lt; omega
  have g1 : p < wc.heap.size + 1 := by omega
  have g2 : p < wc.heap.size + 1 + 1 := by omega
  have g3 : p < wc.heap.size + 1 + 1 + 1 := by omega
  have h1 : w.heap.size < wc.heap.size + 1 := by omega
  have h2 : w.heap.size < wc.heap.size + 1 + 1 := by omega
  have h3 : w.heap.size < wc.heap.size + 1 + 1 + 1 := by omega
  have k2 : w.heap.size < wc.heap.size + 2 := by omega
  have k3 : w.heap.size < wc.heap.size + 3 := by omega
  have k4 : p < wc.heap.size + 2 := by omega
  have k5 : p < wc.heap.size + 3 := by omega
  have e1 : w.heap.size ≤ wc.heap.size := by omega
  have e2 : w.heap.size ≤ wc.heap.size + 1 := by omega
  have e3 : w.heap.size ≤ wc.heap.size + 1 + 1 := by omega
  have e4 : w.heap.size ≤ wc.heap.size + 2 := by omega
  have e5 : p ≤ wc.heap.size := by omega
  have e6 : p ≤ wc.heap.size + 1 := by omega
  have e7 : p ≤ wc.heap.size + 1 + 1 := by omega
  have e8 : p ≤ wc.heap.size + 2 := by omega
  unfold schema at f1
  unfold node at f3
  go_upto_region 7 with (fail)
  go_cut [] from 69 to 100 (fun wx => Sd (At w p (node 0 u) (schema false 0 2020 ⟨#[]⟩ (.pointer none) (.slice none 0 0) none none none none none false) [] wx))
  case first => as_aux_lemma =>
    have hk := fun (W : World) i v j => set_cell_other W (show w.heap.size ≠ p by have := H0.out.lt; omega) i j v
    have hpb : w.heap.size ≠ p := by have := H0.out.lt; omega
    go_region_held3 (fun w' => w'.cell? ⟨w.heap.size, 5, none⟩ = some (.int .i64 0) ∧ w'.cell? ⟨w.heap.size, 6, none⟩ = some (.int .i64 0) ∧ w'.cell? ⟨w.heap.size, 7, none⟩ = some (.int .i64 0) ∧ w'.cell? ⟨w.heap.size, 8, none⟩ = some (.int .i64 0)) (first | (simp (disch := (first | assumption | (simp only [World.size_alloc, World.size_setCell, size_drew]; omega))) only [cell_drew, cell_past, set_cell_other, f3]; done) | (simp (disch := (first | assumption | (simp only [World.size_alloc, World.size_setCell, size_drew]; omega))) only [cell_drew, cell_past, set_cell_other, f3]; simp; done) | go_keep) (first | (go_at_call 51; refine (at_none _ _ _ _ (by decide)).mono ?_; rintro e w' ⟨rfl, rfl⟩))
    all_goals (go_wp2_with fail; go_meet; exact ⟨by repeat (first | exact H0.out | apply At.drew | apply At.alloc | refine At.stay ?_ rfl)⟩)
  case rest => as_aux_lemma =>
  clear f1 f2 f3 f4 g0 g1 g2 g3 h1 h2 h3 k2 k3 k4 k5 e1 e2 e3 e4 e5 e6 e7 e8 H0
  have H0 := hcut
  clear hcut
  have f1 := box_cell H0.out.s
  have f2 := box_frozen H0.out.s
  have f3 := box_cell H0.out.n
  have f4 := H0.out.size
  have g0 : p < wc.heap.size := by have := H0.out.lt; omega
  have g1 : p < wc.heap.size + 1 := by omega
  have g2 : p < wc.heap.size + 1 + 1 := by omega
  have g3 : p < wc.heap.size + 1 + 1 + 1 := by omega
  have h1 : w.heap.size < wc.heap.size + 1 := by omega
  have h2 : w.heap.size < wc.heap.size + 1 + 1 := by omega
  have h3 : w.heap.size < wc.heap.size + 1 + 1 + 1 := by omega
  have k2 : w.heap.size < wc.heap.size + 2 := by omega
  have k3 : w.heap.size < wc.heap.size + 3 := by omega
  have k4 : p < wc.heap.size + 2 := by omega
  have k5 : p < wc.heap.size + 3 := by omega
  have e1 : w.heap.size ≤ wc.heap.size := by omega
  have e2 : w.heap.size ≤ wc.heap.size + 1 := by omega
  have e3 : w.heap.size ≤ wc.heap.size + 1 + 1 := by omega
  have e4 : w.heap.size ≤ wc.heap.size + 2 := by omega
  have e5 : p ≤ wc.heap.size := by omega
  have e6 : p ≤ wc.heap.size + 1 := by omega
  have e7 : p ≤ wc.heap.size + 1 + 1 := by omega
  have e8 : p ≤ wc.heap.size + 2 := by omega
  unfold schema at f1
  unfold node at f3
  go_upto_region 20 with (fail)
  go_cut [] from 144 to 155 (fun wx => Sd (At w p (node 0 u) (schema false 0 2020 ⟨#[]⟩ (.pointer none) (.slice none 0 0) none none none none none false) [] wx))
  case first => as_aux_lemma =>
    have hk := fun (W : World) i v j => set_cell_other W (show w.heap.size ≠ p by have := H0.out.lt; omega) i j v
    have hpb : w.heap.size ≠ p := by have := H0.out.lt; omega
    go_region_held3 (fun w' => w'.cell? ⟨w.heap.size, 13, none⟩ = some (.bool false) ∧ w'.cell? ⟨w.heap.size, 14, none⟩ = some (.int .i64 0) ∧ w'.cell? ⟨w.heap.size, 15, none⟩ = some (.bool false) ∧ w'.cell? ⟨w.heap.size, 16, none⟩ = some (.int .i64 0)) (first | (simp (disch := (first | assumption | (simp only [World.size_alloc, World.size_setCell, size_drew]; omega))) only [cell_drew, cell_past, set_cell_other, f3]; done) | (simp (disch := (first | assumption | (simp only [World.size_alloc, World.size_setCell, size_drew]; omega))) only [cell_drew, cell_past, set_cell_other, f3]; simp; done) | go_keep) (first | (go_at_call 91; refine (limit_at _ _).mono ?_; rintro e w' ⟨rfl, rfl⟩))
    all_goals (go_wp2_with fail; go_meet; exact ⟨by repeat (first | exact H0.out | apply At.drew | apply At.alloc | refine At.stay ?_ rfl)⟩)
  case rest => as_aux_lemma =>
  clear f1 f2 f3 f4 g0 g1 g2 g3 h1 h2 h3 k2 k3 k4 k5 e1 e2 e3 e4 e5 e6 e7 e8 H0
  have H0 := hcut
  clear hcut
  have f1 := box_cell H0.out.s
  have f2 := box_frozen H0.out.s
  have f3 := box_cell H0.out.n
  have f4 := H0.out.size
  have g0 : p < wc.heap.size := by have := H0.out.lt; omega
  have g1 : p < wc.heap.size + 1 := by omega
  have g2 : p < wc.heap.size + 1 + 1 := by omega
  have g3 : p < wc.heap.size + 1 + 1 + 1 := by omega
  have h1 : w.heap.size < wc.heap.size + 1 := by omega
  have h2 : w.heap.size < wc.heap.size + 1 + 1 := by omega
  have h3 : w.heap.size < wc.heap.size + 1 + 1 + 1 := by omega
  have k2 : w.heap.size < wc.heap.size + 2 := by omega
  have k3 : w.heap.size < wc.heap.size + 3 := by omega
  have k4 : p < wc.heap.size + 2 := by omega
  have k5 : p < wc.heap.size + 3 := by omega
  have e1 : w.heap.size ≤ wc.heap.size := by omega
  have e2 : w.heap.size ≤ wc.heap.size + 1 := by omega
  have e3 : w.heap.size ≤ wc.heap.size + 1 + 1 := by omega
  have e4 : w.heap.size ≤ wc.heap.size + 2 := by omega
  have e5 : p ≤ wc.heap.size := by omega
  have e6 : p ≤ wc.heap.size + 1 := by omega
  have e7 : p ≤ wc.heap.size + 1 + 1 := by omega
  have e8 : p ≤ wc.heap.size + 2 := by omega
  unfold schema at f1
  unfold node at f3
  go_upto_region 25 with (fail)
  go_cut [] from 179 to 202 (fun wx => Sd (At w p (node 0 u) (schema false 0 2020 ⟨#[]⟩ (.pointer none) (.slice none 0 0) none none none none none false) [] wx))
  case first => as_aux_lemma =>
    have hk := fun (W : World) i v j => set_cell_other W (show w.heap.size ≠ p by have := H0.out.lt; omega) i j v
    have hpb : w.heap.size ≠ p := by have := H0.out.lt; omega
    go_region_held3 (fun w' => w'.cell? ⟨w.heap.size, 21, none⟩ = some (.bool false) ∧ w'.cell? ⟨w.heap.size, 22, none⟩ = some (.int .i64 0) ∧ w'.cell? ⟨w.heap.size, 23, none⟩ = some (.bool false) ∧ w'.cell? ⟨w.heap.size, 24, none⟩ = some (.int .i64 0) ∧ w'.cell? ⟨w.heap.size, 25, none⟩ = some (.bool false) ∧ w'.cell? ⟨w.heap.size, 26, none⟩ = some (.int .i64 0) ∧ w'.cell? ⟨w.heap.size, 27, none⟩ = some (.bool false) ∧ w'.cell? ⟨w.heap.size, 28, none⟩ = some (.int .i64 0)) (first | (simp (disch := assumption) only [cell_drew, set_cell_other, f3]; done) | (simp (disch := assumption) only [cell_drew, set_cell_other, f3]; simp; done) | go_keep) (first | (go_at_call 91; refine (limit_h _ _ (by repeat (first | exact HL.out | exact H0.out | apply At.drew))).mono ?_; rintro e w' ⟨rfl, hl⟩; have HL := Sd.mk hl; have f1 := box_cell hl.s; have f2 := box_frozen hl.s; have f3 := box_cell hl.n; clear hl; unfold schema at f1; unfold node at f3))
    all_goals (go_wp2_with fail; go_meet; exact ⟨by repeat (first | exact HL.out | exact H0.out | apply At.drew | refine At.stay ?_ rfl)⟩)
  case rest => as_aux_lemma =>
  clear f1 f2 f3 f4 g0 g1 g2 g3 h1 h2 h3 k2 k3 k4 k5 e1 e2 e3 e4 e5 e6 e7 e8 H0
  have H0 := hcut
  clear hcut
  have f1 := box_cell H0.out.s
  have f2 := box_frozen H0.out.s
  have f3 := box_cell H0.out.n
  have f4 := H0.out.size
  have g0 : p < wc.heap.size := by have := H0.out.lt; omega
  have g1 : p < wc.heap.size + 1 := by omega
  have g2 : p < wc.heap.size + 1 + 1 := by omega
  have g3 : p < wc.heap.size + 1 + 1 + 1 := by omega
  have h1 : w.heap.size < wc.heap.size + 1 := by omega
  have h2 : w.heap.size < wc.heap.size + 1 + 1 := by omega
  have h3 : w.heap.size < wc.heap.size + 1 + 1 + 1 := by omega
  have k2 : w.heap.size < wc.heap.size + 2 := by omega
  have k3 : w.heap.size < wc.heap.size + 3 := by omega
  have k4 : p < wc.heap.size + 2 := by omega
  have k5 : p < wc.heap.size + 3 := by omega
  have e1 : w.heap.size ≤ wc.heap.size := by omega
  have e2 : w.heap.size ≤ wc.heap.size + 1 := by omega
  have e3 : w.heap.size ≤ wc.heap.size + 1 + 1 := by omega
  have e4 : w.heap.size ≤ wc.heap.size + 2 := by omega
  have e5 : p ≤ wc.heap.size := by omega
  have e6 : p ≤ wc.heap.size + 1 := by omega
  have e7 : p ≤ wc.heap.size + 1 + 1 := by omega
  have e8 : p ≤ wc.heap.size + 2 := by omega
  unfold schema at f1
  unfold node at f3
  go_upto_region 26 with (fail)
  go_cut [] from 203 to 207 (fun wx => Sd (At w p (node 0 u) (schema false 0 2020 ⟨#[]⟩ (.pointer none) (.slice none 0 0) none none none none none u) [] wx))
  case first => as_aux_lemma =>
    go_wp2_with fail
    go_meet
    exact ⟨H0.out.put 33 _ rfl⟩
  case rest => as_aux_lemma =>
  clear f1 f2 f3 f4 g0 g1 g2 g3 h1 h2 h3 k2 k3 k4 k5 e1 e2 e3 e4 e5 e6 e7 e8 H0
  have H0 := hcut
  clear hcut
  have f1 := box_cell H0.out.s
  have f2 := box_frozen H0.out.s
  have f3 := box_cell H0.out.n
  have f4 := H0.out.size
  have g0 : p < wc.heap.size := by have := H0.out.lt; omega
  have g1 : p < wc.heap.size + 1 := by omega
  have g2 : p < wc.heap.size + 1 + 1 := by omega
  have g3 : p < wc.heap.size + 1 + 1 + 1 := by omega
  have h1 : w.heap.size < wc.heap.size + 1 := by omega
  have h2 : w.heap.size < wc.heap.size + 1 + 1 := by omega
  have h3 : w.heap.size < wc.heap.size + 1 + 1 + 1 := by omega
  have k2 : w.heap.size < wc.heap.size + 2 := by omega
  have k3 : w.heap.size < wc.heap.size + 3 := by omega
  have k4 : p < wc.heap.size + 2 := by omega
  have k5 : p < wc.heap.size + 3 := by omega
  have e1 : w.heap.size ≤ wc.heap.size := by omega
  have e2 : w.heap.size ≤ wc.heap.size + 1 := by omega
  have e3 : w.heap.size ≤ wc.heap.size + 1 + 1 := by omega
  have e4 : w.heap.size ≤ wc.heap.size + 2 := by omega
  have e5 : p ≤ wc.heap.size := by omega
  have e6 : p ≤ wc.heap.size + 1 := by omega
  have e7 : p ≤ wc.heap.size + 1 + 1 := by omega
  have e8 : p ≤ wc.heap.size + 2 := by omega
  unfold schema at f1
  unfold node at f3
  go_upto_region 27 with (fail)
  go_cut [] from 208 to 214 (fun wx => Sd (At w p (node 0 u) (schema false 0 2020 ⟨#[]⟩ (.pointer none) (.slice none 0 0) none none none none none u) [] wx))
  case first => as_aux_lemma =>
    go_wp2_with (go_at_call 88; refine (all_none _ _ _ _).mono ?_; rintro e w' ⟨rfl, rfl⟩)
    go_meet
    exact ⟨by repeat (first | exact H0.out | apply At.drew | apply At.alloc | refine At.stay ?_ rfl)⟩
  case rest => as_aux_lemma =>
  clear f1 f2 f3 f4 g0 g1 g2 g3 h1 h2 h3 k2 k3 k4 k5 e1 e2 e3 e4 e5 e6 e7 e8 H0
  have H0 := hcut
  clear hcut
  have f1 := box_cell H0.out.s
  have f2 := box_frozen H0.out.s
  have f3 := box_cell H0.out.n
  have f4 := H0.out.size
  have g0 : p < wc.heap.size := by have := H0.out.lt; omega
  have g1 : p < wc.heap.size + 1 := by omega
  have g2 : p < wc.heap.size + 1 + 1 := by omega
  have g3 : p < wc.heap.size + 1 + 1 + 1 := by omega
  have h1 : w.heap.size < wc.heap.size + 1 := by omega
  have h2 : w.heap.size < wc.heap.size + 1 + 1 := by omega
  have h3 : w.heap.size < wc.heap.size + 1 + 1 + 1 := by omega
  have k2 : w.heap.size < wc.heap.size + 2 := by omega
  have k3 : w.heap.size < wc.heap.size + 3 := by omega
  have k4 : p < wc.heap.size + 2 := by omega
  have k5 : p < wc.heap.size + 3 := by omega
  have e1 : w.heap.size ≤ wc.heap.size := by omega
  have e2 : w.heap.size ≤ wc.heap.size + 1 := by omega
  have e3 : w.heap.size ≤ wc.heap.size + 1 + 1 := by omega
  have e4 : w.heap.size ≤ wc.heap.size + 2 := by omega
  have e5 : p ≤ wc.heap.size := by omega
  have e6 : p ≤ wc.heap.size + 1 := by omega
  have e7 : p ≤ wc.heap.size + 1 + 1 := by omega
  have e8 : p ≤ wc.heap.size + 2 := by omega
  unfold schema at f1
  unfold node at f3
  go_upto_region 28 with (fail)
  go_cut [] from 215 to 235 (fun wx => Sd (At w p (node 0 u) (schema false 0 2020 ⟨#[]⟩ (.pointer none) (.slice none 0 0) none none none none none u) [] wx))
  case first => as_aux_lemma =>
    have hk := fun (W : World) i v j => set_cell_other W (show w.heap.size ≠ p by have := H0.out.lt; omega) i j v
    have hpb : w.heap.size ≠ p := by have := H0.out.lt; omega
    go_region_held3 (fun w' => w'.cell? ⟨w.heap.size, 31, none⟩ = some (.int .i64 0) ∧ w'.cell? ⟨w.heap.size, 32, none⟩ = some (.int .i64 0) ∧ w'.cell? ⟨w.heap.size, 33, none⟩ = some (.int .i64 0)) (first | (simp (disch := (first | assumption | (simp only [World.size_alloc, World.size_setCell, size_drew]; omega))) only [cell_drew, cell_past, set_cell_other, f3]; done) | (simp (disch := (first | assumption | (simp only [World.size_alloc, World.size_setCell, size_drew]; omega))) only [cell_drew, cell_past, set_cell_other, f3]; simp; done) | go_keep) (first | (go_at_call 51; refine (at_none _ _ _ _ (by decide)).mono ?_; rintro e w' ⟨rfl, rfl⟩))
    all_goals (go_wp2_with fail; go_meet; exact ⟨by repeat (first | exact H0.out | apply At.drew | apply At.alloc | refine At.stay ?_ rfl)⟩)
  case rest => as_aux_lemma =>
  clear f1 f2 f3 f4 g0 g1 g2 g3 h1 h2 h3 k2 k3 k4 k5 e1 e2 e3 e4 e5 e6 e7 e8 H0
  have H0 := hcut
  clear hcut
  have f1 := box_cell H0.out.s
  have f2 := box_frozen H0.out.s
  have f3 := box_cell H0.out.n
  have f4 := H0.out.size
  have g0 : p < wc.heap.size := by have := H0.out.lt; omega
  have g1 : p < wc.heap.size + 1 := by omega
  have g2 : p < wc.heap.size + 1 + 1 := by omega
  have g3 : p < wc.heap.size + 1 + 1 + 1 := by omega
  have h1 : w.heap.size < wc.heap.size + 1 := by omega
  have h2 : w.heap.size < wc.heap.size + 1 + 1 := by omega
  have h3 : w.heap.size < wc.heap.size + 1 + 1 + 1 := by omega
  have k2 : w.heap.size < wc.heap.size + 2 := by omega
  have k3 : w.heap.size < wc.heap.size + 3 := by omega
  have k4 : p < wc.heap.size + 2 := by omega
  have k5 : p < wc.heap.size + 3 := by omega
  have e1 : w.heap.size ≤ wc.heap.size := by omega
  have e2 : w.heap.size ≤ wc.heap.size + 1 := by omega
  have e3 : w.heap.size ≤ wc.heap.size + 1 + 1 := by omega
  have e4 : w.heap.size ≤ wc.heap.size + 2 := by omega
  have e5 : p ≤ wc.heap.size := by omega
  have e6 : p ≤ wc.heap.size + 1 := by omega
  have e7 : p ≤ wc.heap.size + 1 + 1 := by omega
  have e8 : p ≤ wc.heap.size + 2 := by omega
  unfold schema at f1
  unfold node at f3
  go_upto_region 29 with (fail)
  go_cut [] from 236 to 247 (fun wx => Sd (At w p (node 0 u) (schema false 0 2020 ⟨#[]⟩ (.pointer none) (.slice none 0 0) none none none none none u) [] wx))
  case first => as_aux_lemma =>
    have hk := fun (W : World) i v j => set_cell_other W (show w.heap.size ≠ p by have := H0.out.lt; omega) i j v
    have hpb : w.heap.size ≠ p := by have := H0.out.lt; omega
    go_region_held3 (fun w' => w'.cell? ⟨w.heap.size, 34, none⟩ = some (.bool false) ∧ w'.cell? ⟨w.heap.size, 35, none⟩ = some (.int .i64 0) ∧ w'.cell? ⟨w.heap.size, 36, none⟩ = some (.bool false) ∧ w'.cell? ⟨w.heap.size, 37, none⟩ = some (.int .i64 0)) (first | (simp (disch := (first | assumption | (simp only [World.size_alloc, World.size_setCell, size_drew]; omega))) only [cell_drew, cell_past, set_cell_other, f3]; done) | (simp (disch := (first | assumption | (simp only [World.size_alloc, World.size_setCell, size_drew]; omega))) only [cell_drew, cell_past, set_cell_other, f3]; simp; done) | go_keep) (first | (go_at_call 91; refine (limit_at _ _).mono ?_; rintro e w' ⟨rfl, rfl⟩))
    all_goals (go_wp2_with fail; go_meet; exact ⟨by repeat (first | exact H0.out | apply At.drew | apply At.alloc | refine At.stay ?_ rfl)⟩)
  case rest => as_aux_lemma =>
  clear f1 f2 f3 f4 g0 g1 g2 g3 h1 h2 h3 k2 k3 k4 k5 e1 e2 e3 e4 e5 e6 e7 e8 H0
  have H0 := hcut
  clear hcut
  have f1 := box_cell H0.out.s
  have f2 := box_frozen H0.out.s
  have f3 := box_cell H0.out.n
  have f4 := H0.out.size
  have g0 : p < wc.heap.size := by have := H0.out.lt; omega
  have g1 : p < wc.heap.size + 1 := by omega
  have g2 : p < wc.heap.size + 1 + 1 := by omega
  have g3 : p < wc.heap.size + 1 + 1 + 1 := by omega
  have h1 : w.heap.size < wc.heap.size + 1 := by omega
  have h2 : w.heap.size < wc.heap.size + 1 + 1 := by omega
  have h3 : w.heap.size < wc.heap.size + 1 + 1 + 1 := by omega
  have k2 : w.heap.size < wc.heap.size + 2 := by omega
  have k3 : w.heap.size < wc.heap.size + 3 := by omega
  have k4 : p < wc.heap.size + 2 := by omega
  have k5 : p < wc.heap.size + 3 := by omega
  have e1 : w.heap.size ≤ wc.heap.size := by omega
  have e2 : w.heap.size ≤ wc.heap.size + 1 := by omega
  have e3 : w.heap.size ≤ wc.heap.size + 1 + 1 := by omega
  have e4 : w.heap.size ≤ wc.heap.size + 2 := by omega
  have e5 : p ≤ wc.heap.size := by omega
  have e6 : p ≤ wc.heap.size + 1 := by omega
  have e7 : p ≤ wc.heap.size + 1 + 1 := by omega
  have e8 : p ≤ wc.heap.size + 2 := by omega
  unfold schema at f1
  unfold node at f3
  go_upto_region 30 with (fail)
  go_cut [] from 248 to 253 (fun wx => ∃ rq, Sd (At w p (node 0 u) (schema false 0 2020 ⟨#[]⟩ (.pointer none) (.slice (some ⟨rq, 0, none⟩) 0 0) none none none none none u) [] wx))
  case first => as_aux_lemma =>
    go_wp2_with (go_at_call 54; refine (copied_at _).mono ?_; rintro e w' ⟨rfl, rfl⟩)
    go_meet
    exact ⟨wc.heap.size, ⟨(H0.out.put 22 _ rfl).alloc _⟩⟩
  case rest => as_aux_lemma =>
  clear f1 f2 f3 f4 g0 g1 g2 g3 h1 h2 h3 k2 k3 k4 k5 e1 e2 e3 e4 e5 e6 e7 e8 H0
  obtain ⟨rq, H0⟩ := hcut
  have f1 := box_cell H0.out.s
  have f2 := box_frozen H0.out.s
  have f3 := box_cell H0.out.n
  have f4 := H0.out.size
  have g0 : p < wc.heap.size := by have := H0.out.lt; omega
  have g1 : p < wc.heap.size + 1 := by omega
  have g2 : p < wc.heap.size + 1 + 1 := by omega
  have g3 : p < wc.heap.size + 1 + 1 + 1 := by omega
  have h1 : w.heap.size < wc.heap.size + 1 := by omega
  have h2 : w.heap.size < wc.heap.size + 1 + 1 := by omega
  have h3 : w.heap.size < wc.heap.size + 1 + 1 + 1 := by omega
  have k2 : w.heap.size < wc.heap.size + 2 := by omega
  have k3 : w.heap.size < wc.heap.size + 3 := by omega
  have k4 : p < wc.heap.size + 2 := by omega
  have k5 : p < wc.heap.size + 3 := by omega
  have e1 : w.heap.size ≤ wc.heap.size := by omega
  have e2 : w.heap.size ≤ wc.heap.size + 1 := by omega
  have e3 : w.heap.size ≤ wc.heap.size + 1 + 1 := by omega
  have e4 : w.heap.size ≤ wc.heap.size + 2 := by omega
  have e5 : p ≤ wc.heap.size := by omega
  have e6 : p ≤ wc.heap.size + 1 := by omega
  have e7 : p ≤ wc.heap.size + 1 + 1 := by omega
  have e8 : p ≤ wc.heap.size + 2 := by omega
  unfold schema at f1
  unfold node at f3
  go_upto_region 31 with (fail)
  go_cut [] from 254 to 257 (fun wx => ∃ mr, Sd (At w p (node 0 u) (schema false 0 2020 ⟨#[]⟩ (.pointer none) (.slice (some ⟨rq, 0, none⟩) 0 0) none none none (some mr) none u) [mr] wx))
  case first => as_aux_lemma =>
    go_wp2_with fail
    go_meet
    exact ⟨wc.heap.size, ⟨(H0.out.put 28 _ rfl).made' (by simp)⟩⟩
  case rest => as_aux_lemma =>
  clear f1 f2 f3 f4 g0 g1 g2 g3 h1 h2 h3 k2 k3 k4 k5 e1 e2 e3 e4 e5 e6 e7 e8 H0
  obtain ⟨mr, H0⟩ := hcut
  have f1 := box_cell H0.out.s
  have f2 := box_frozen H0.out.s
  have f3 := box_cell H0.out.n
  have f4 := H0.out.size
  have g0 : p < wc.heap.size := by have := H0.out.lt; omega
  have g1 : p < wc.heap.size + 1 := by omega
  have g2 : p < wc.heap.size + 1 + 1 := by omega
  have g3 : p < wc.heap.size + 1 + 1 + 1 := by omega
  have h1 : w.heap.size < wc.heap.size + 1 := by omega
  have h2 : w.heap.size < wc.heap.size + 1 + 1 := by omega
  have h3 : w.heap.size < wc.heap.size + 1 + 1 + 1 := by omega
  have k2 : w.heap.size < wc.heap.size + 2 := by omega
  have k3 : w.heap.size < wc.heap.size + 3 := by omega
  have k4 : p < wc.heap.size + 2 := by omega
  have k5 : p < wc.heap.size + 3 := by omega
  have e1 : w.heap.size ≤ wc.heap.size := by omega
  have e2 : w.heap.size ≤ wc.heap.size + 1 := by omega
  have e3 : w.heap.size ≤ wc.heap.size + 1 + 1 := by omega
  have e4 : w.heap.size ≤ wc.heap.size + 2 := by omega
  have e5 : p ≤ wc.heap.size := by omega
  have e6 : p ≤ wc.heap.size + 1 := by omega
  have e7 : p ≤ wc.heap.size + 1 + 1 := by omega
  have e8 : p ≤ wc.heap.size + 2 := by omega
  unfold schema at f1
  unfold node at f3
  go_wp2_with fail
  go_loop [261] (fun v => v = .int .i64 0) (fun _ => 0)
  case atStart => rfl
  case round =>
  subst hrel
  go_upto_region 37 with (fail)
  go_cut [] from 275 to 282 (fun wx => ∃ md, Sd (At w p (node 0 u) (schema false 0 2020 ⟨#[]⟩ (.pointer none) (.slice (some ⟨rq, 0, none⟩) 0 0) none none none (some mr) (some md) u) [md, mr] wx))
  case first => as_aux_lemma =>
    go_wp2_with (go_at_call 93; refine (props_none _ _ _).mono ?_; rintro e w' ⟨rfl, rfl⟩)
    go_meet
    exact ⟨wc.heap.size, ⟨(H0.out.put 29 _ rfl).made' (by simp)⟩⟩
  case rest => as_aux_lemma =>
  clear f1 f2 f3 f4 g0 g1 g2 g3 h1 h2 h3 k2 k3 k4 k5 e1 e2 e3 e4 e5 e6 e7 e8 H0
  obtain ⟨md, H0⟩ := hcut
  have f1 := box_cell H0.out.s
  have f2 := box_frozen H0.out.s
  have f3 := box_cell H0.out.n
  have f4 := H0.out.size
  have g0 : p < wc.heap.size := by have := H0.out.lt; omega
  have g1 : p < wc.heap.size + 1 := by omega
  have g2 : p < wc.heap.size + 1 + 1 := by omega
  have g3 : p < wc.heap.size + 1 + 1 + 1 := by omega
  have h1 : w.heap.size < wc.heap.size + 1 := by omega
  have h2 : w.heap.size < wc.heap.size + 1 + 1 := by omega
  have h3 : w.heap.size < wc.heap.size + 1 + 1 + 1 := by omega
  have k2 : w.heap.size < wc.heap.size + 2 := by omega
  have k3 : w.heap.size < wc.heap.size + 3 := by omega
  have k4 : p < wc.heap.size + 2 := by omega
  have k5 : p < wc.heap.size + 3 := by omega
  have e1 : w.heap.size ≤ wc.heap.size := by omega
  have e2 : w.heap.size ≤ wc.heap.size + 1 := by omega
  have e3 : w.heap.size ≤ wc.heap.size + 1 + 1 := by omega
  have e4 : w.heap.size ≤ wc.heap.size + 2 := by omega
  have e5 : p ≤ wc.heap.size := by omega
  have e6 : p ≤ wc.heap.size + 1 := by omega
  have e7 : p ≤ wc.heap.size + 1 + 1 := by omega
  have e8 : p ≤ wc.heap.size + 2 := by omega
  unfold schema at f1
  unfold node at f3
  go_upto_region 38 with (fail)
  go_cut [] from 283 to 289 (fun wx => ∃ mp, Sd (At w p (node 0 u) (schema false 0 2020 ⟨#[]⟩ (.pointer none) (.slice (some ⟨rq, 0, none⟩) 0 0) (some mp) none none (some mr) (some md) u) [mp, md, mr] wx))
  case first => as_aux_lemma =>
    go_wp2_with (go_at_call 93; refine (props_none _ _ _).mono ?_; rintro e w' ⟨rfl, rfl⟩)
    go_meet
    exact ⟨wc.heap.size, ⟨(H0.out.put 24 _ rfl).made' (by simp)⟩⟩
  case rest => as_aux_lemma =>
  clear f1 f2 f3 f4 g0 g1 g2 g3 h1 h2 h3 k2 k3 k4 k5 e1 e2 e3 e4 e5 e6 e7 e8 H0
  obtain ⟨mp, H0⟩ := hcut
  have f1 := box_cell H0.out.s
  have f2 := box_frozen H0.out.s
  have f3 := box_cell H0.out.n
  have f4 := H0.out.size
  have g0 : p < wc.heap.size := by have := H0.out.lt; omega
  have g1 : p < wc.heap.size + 1 := by omega
  have g2 : p < wc.heap.size + 1 + 1 := by omega
  have g3 : p < wc.heap.size + 1 + 1 + 1 := by omega
  have h1 : w.heap.size < wc.heap.size + 1 := by omega
  have h2 : w.heap.size < wc.heap.size + 1 + 1 := by omega
  have h3 : w.heap.size < wc.heap.size + 1 + 1 + 1 := by omega
  have k2 : w.heap.size < wc.heap.size + 2 := by omega
  have k3 : w.heap.size < wc.heap.size + 3 := by omega
  have k4 : p < wc.heap.size + 2 := by omega
  have k5 : p < wc.heap.size + 3 := by omega
  have e1 : w.heap.size ≤ wc.heap.size := by omega
  have e2 : w.heap.size ≤ wc.heap.size + 1 := by omega
  have e3 : w.heap.size ≤ wc.heap.size + 1 + 1 := by omega
  have e4 : w.heap.size ≤ wc.heap.size + 2 := by omega
  have e5 : p ≤ wc.heap.size := by omega
  have e6 : p ≤ wc.heap.size + 1 := by omega
  have e7 : p ≤ wc.heap.size + 1 + 1 := by omega
  have e8 : p ≤ wc.heap.size + 2 := by omega
  unfold schema at f1
  unfold node at f3
  go_upto_region 39 with (fail)
  go_cut [] from 290 to 293 (fun wx => ∃ mt, Sd (At w p (node 0 u) (schema false 0 2020 ⟨#[]⟩ (.pointer none) (.slice (some ⟨rq, 0, none⟩) 0 0) (some mp) (some mt) none (some mr) (some md) u) [mt, mp, md, mr] wx))
  case first => as_aux_lemma =>
    go_wp2_with fail
    go_meet
    exact ⟨wc.heap.size, ⟨(H0.out.put 25 _ rfl).made' (by simp)⟩⟩
  case rest => as_aux_lemma =>
  clear f1 f2 f3 f4 g0 g1 g2 g3 h1 h2 h3 k2 k3 k4 k5 e1 e2 e3 e4 e5 e6 e7 e8 H0
  obtain ⟨mt, H0⟩ := hcut
  have f1 := box_cell H0.out.s
  have f2 := box_frozen H0.out.s
  have f3 := box_cell H0.out.n
  have f4 := H0.out.size
  have g0 : p < wc.heap.size := by have := H0.out.lt; omega
  have g1 : p < wc.heap.size + 1 := by omega
  have g2 : p < wc.heap.size + 1 + 1 := by omega
  have g3 : p < wc.heap.size + 1 + 1 + 1 := by omega
  have h1 : w.heap.size < wc.heap.size + 1 := by omega
  have h2 : w.heap.size < wc.heap.size + 1 + 1 := by omega
  have h3 : w.heap.size < wc.heap.size + 1 + 1 + 1 := by omega
  have k2 : w.heap.size < wc.heap.size + 2 := by omega
  have k3 : w.heap.size < wc.heap.size + 3 := by omega
  have k4 : p < wc.heap.size + 2 := by omega
  have k5 : p < wc.heap.size + 3 := by omega
  have e1 : w.heap.size ≤ wc.heap.size := by omega
  have e2 : w.heap.size ≤ wc.heap.size + 1 := by omega
  have e3 : w.heap.size ≤ wc.heap.size + 1 + 1 := by omega
  have e4 : w.heap.size ≤ wc.heap.size + 2 := by omega
  have e5 : p ≤ wc.heap.size := by omega
  have e6 : p ≤ wc.heap.size + 1 := by omega
  have e7 : p ≤ wc.heap.size + 1 + 1 := by omega
  have e8 : p ≤ wc.heap.size + 2 := by omega
  unfold schema at f1
  unfold node at f3
  go_wp2_with fail
  go_loop [297] (fun v => v = .int .i64 0) (fun _ => 0)
  case atStart => rfl
  case round =>
  subst hrel
  go_upto_region 47 with (fail)
  go_cut [] from 319 to 332 (fun wx => Sd (At w p (node 0 u) (schema false 0 2020 ⟨#[]⟩ (.pointer none) (.slice (some ⟨rq, 0, none⟩) 0 0) (some mp) (some mt) none (some mr) (some md) u) [mt, mp, md, mr] wx))
  case first => as_aux_lemma =>
    have hk := fun (W : World) i v j => set_cell_other W (show w.heap.size ≠ p by have := H0.out.lt; omega) i j v
    have hpb : w.heap.size ≠ p := by have := H0.out.lt; omega
    go_region_held3 (fun w' => w'.cell? ⟨w.heap.size, 45, none⟩ = some (.int .i64 0) ∧ w'.cell? ⟨w.heap.size, 46, none⟩ = some (.int .i64 0)) (first | (simp (disch := (first | assumption | (simp only [World.size_alloc, World.size_setCell, size_drew]; omega))) only [cell_drew, cell_past, set_cell_other, f3]; done) | (simp (disch := (first | assumption | (simp only [World.size_alloc, World.size_setCell, size_drew]; omega))) only [cell_drew, cell_past, set_cell_other, f3]; simp; done) | go_keep) (first | (go_at_call 51; refine (at_none _ _ _ _ (by decide)).mono ?_; rintro e w' ⟨rfl, rfl⟩))
    all_goals (go_wp2_with fail; go_meet; exact ⟨by repeat (first | exact H0.out | apply At.drew | apply At.alloc | refine At.stay ?_ rfl)⟩)
  case rest => as_aux_lemma =>
  clear f1 f2 f3 f4 g0 g1 g2 g3 h1 h2 h3 k2 k3 k4 k5 e1 e2 e3 e4 e5 e6 e7 e8 H0
  have H0 := hcut
  clear hcut
  have f1 := box_cell H0.out.s
  have f2 := box_frozen H0.out.s
  have f3 := box_cell H0.out.n
  have f4 := H0.out.size
  have g0 : p < wc.heap.size := by have := H0.out.lt; omega
  have g1 : p < wc.heap.size + 1 := by omega
  have g2 : p < wc.heap.size + 1 + 1 := by omega
  have g3 : p < wc.heap.size + 1 + 1 + 1 := by omega
  have h1 : w.heap.size < wc.heap.size + 1 := by omega
  have h2 : w.heap.size < wc.heap.size + 1 + 1 := by omega
  have h3 : w.heap.size < wc.heap.size + 1 + 1 + 1 := by omega
  have k2 : w.heap.size < wc.heap.size + 2 := by omega
  have k3 : w.heap.size < wc.heap.size + 3 := by omega
  have k4 : p < wc.heap.size + 2 := by omega
  have k5 : p < wc.heap.size + 3 := by omega
  have e1 : w.heap.size ≤ wc.heap.size := by omega
  have e2 : w.heap.size ≤ wc.heap.size + 1 := by omega
  have e3 : w.heap.size ≤ wc.heap.size + 1 + 1 := by omega
  have e4 : w.heap.size ≤ wc.heap.size + 2 := by omega
  have e5 : p ≤ wc.heap.size := by omega
  have e6 : p ≤ wc.heap.size + 1 := by omega
  have e7 : p ≤ wc.heap.size + 1 + 1 := by omega
  have e8 : p ≤ wc.heap.size + 2 := by omega
  unfold schema at f1
  unfold node at f3
  go_upto_region 48 with (fail)
  go_cut [] from 333 to 339 (fun wx => Sd (At w p (node 0 u) (schema false 0 2020 ⟨#[]⟩ (.pointer none) (.slice (some ⟨rq, 0, none⟩) 0 0) (some mp) (some mt) none (some mr) (some md) u) [mt, mp, md, mr] wx))
  case first => as_aux_lemma =>
    go_wp2_with (go_at_call 94; refine (more_at _ _ _).mono ?_; rintro e w' ⟨rfl, rfl⟩)
    go_meet
    exact ⟨by repeat (first | exact H0.out | apply At.drew | apply At.alloc | refine At.stay ?_ rfl)⟩
  case rest => as_aux_lemma =>
  clear f1 f2 f3 f4 g0 g1 g2 g3 h1 h2 h3 k2 k3 k4 k5 e1 e2 e3 e4 e5 e6 e7 e8 H0
  have H0 := hcut
  clear hcut
  have f1 := box_cell H0.out.s
  have f2 := box_frozen H0.out.s
  have f3 := box_cell H0.out.n
  have f4 := H0.out.size
  have g0 : p < wc.heap.size := by have := H0.out.lt; omega
  have g1 : p < wc.heap.size + 1 := by omega
  have g2 : p < wc.heap.size + 1 + 1 := by omega
  have g3 : p < wc.heap.size + 1 + 1 + 1 := by omega
  have h1 : w.heap.size < wc.heap.size + 1 := by omega
  have h2 : w.heap.size < wc.heap.size + 1 + 1 := by omega
  have h3 : w.heap.size < wc.heap.size + 1 + 1 + 1 := by omega
  have k2 : w.heap.size < wc.heap.size + 2 := by omega
  have k3 : w.heap.size < wc.heap.size + 3 := by omega
  have k4 : p < wc.heap.size + 2 := by omega
  have k5 : p < wc.heap.size + 3 := by omega
  have e1 : w.heap.size ≤ wc.heap.size := by omega
  have e2 : w.heap.size ≤ wc.heap.size + 1 := by omega
  have e3 : w.heap.size ≤ wc.heap.size + 1 + 1 := by omega
  have e4 : w.heap.size ≤ wc.heap.size + 2 := by omega
  have e5 : p ≤ wc.heap.size := by omega
  have e6 : p ≤ wc.heap.size + 1 := by omega
  have e7 : p ≤ wc.heap.size + 1 + 1 := by omega
  have e8 : p ≤ wc.heap.size + 2 := by omega
  unfold schema at f1
  unfold node at f3
  go_wp2_with (first | (refine wpList_load_row rfl 44 _ rfl _ rfl 44 (node 0 u) (0, 0) _ H0.out.n Tryz.underlying44 rfl s44 ?_) | (go_at_call 95; refine (older_c u _ _ _ _ _ _ _ _ H0.out.s).mono ?_; rintro e w' ⟨rfl, mx, hx1, hx2, hx3, hx4⟩; have X := Sd.mk (And.intro hx1 (And.intro hx2 (And.intro hx3 hx4))); clear hx1 hx2 hx3 hx4))
  go_end0
  obtain ⟨hx1, hx2, hx3, hx4⟩ := X.out
  have H1 := H0.out.next hx4 hx3
  refine ⟨rfl, rq, mp, mt, mx, mr, md, (H1.m mp (by simp)).2, (H1.m mt (by simp)).2, hx2, (H1.m mr (by simp)).2, (H1.m md (by simp)).2, H1.s, H1.g⟩

end Go.Proofs.YtgkjdgolffnagaaGreatDoor
