/- Parts of the proof of the statement that this folder hands in: lemmas and contracts (R, S, T, V). -/
import Derived.Test.YtgkjdgolffnagaaGreatDoorQ
import Derived.Carry
import Derived.Deep.RegionHeld3
set_option linter.unusedSimpArgs false
set_option linter.unusedVariables false
namespace Go.Proofs.YtgkjdgolffnagaaGreatDoor
open Go.RowKit

theorem at_none (s : Value) (n m : Int) (w : World) (h : n ≤ m) : Calls Tryz.prog 51 #[s, .int .i64 n, .int .i64 m] w fun e w' => e = .returned (.pointer none) ∧ w' = w := by
  have h' : decide (n ≤ m) = true := by simpa using h
  go_enter Tryz.func51, Tryz.ntmps51
  go_wp2_with fail
  go_ret
  exact ⟨rfl, rfl⟩

theorem all_none (s : Value) (c : Nat) (n : Int) (w : World) : Calls Tryz.prog 88 #[s, .slice none 0 c, .int .i64 n] w fun e w' => e = .returned (.slice none 0 0) ∧ w' = w := by
  go_enter Tryz.func88, Tryz.ntmps88
  go_wp2_with fail
  go_loop [7, 13] (fun v7 v => v7 = .slice none 0 0 ∧ v = .int .i64 0) (fun _ _ => 0)
  case atStart => exact ⟨rfl, rfl⟩
  case round =>
    obtain ⟨rfl, rfl⟩ := hrel
    go_wp2_with fail
    go_ret
    exact ⟨rfl, rfl⟩

theorem props_none (s : Value) (n : Int) (w : World) : Calls Tryz.prog 93 #[s, .slice none 0 0, .int .i64 n] w fun e w' => e = .returned (.map (some w.heap.size)) ∧ w' = w.alloc (.map #[] 0) := by
  have hmm := @run_makeMap Tryz.prog
  go_enter Tryz.func93, Tryz.ntmps93
  go_wp2_with fail
  go_loop [14] (fun v => v = .int .i64 0) (fun _ => 0)
  case atStart => rfl
  case round =>
    subst hrel
    go_wp2_with fail
    go_ret
    exact ⟨rfl, rfl⟩

theorem limit_none (n : Int) (w : World) : Calls Tryz.prog 91 #[.agg #[.bool false, .int .i64 n]] w fun e w' => e = .returned (.pointer none) ∧ Ext w w' := by
  go_enter Tryz.func91, Tryz.ntmps91
  go_wp2_with fail
  go_ret
  exact ⟨rfl, (Ext.refl _).alloc _⟩

theorem more_none (s : Value) (n : Int) (w : World) : Calls Tryz.prog 94 #[s, .agg #[.int .i64 0, .int .i64 n]] w fun e w' => e = .returned .nilIface ∧ Ext w w' := by
  go_enter Tryz.func94, Tryz.ntmps94
  go_wp2_with fail
  go_ret
  exact ⟨rfl, (Ext.refl _).alloc _⟩

theorem copied_none (w : World) : Calls Tryz.prog 54 #[.slice none 0 0] w fun e w' => (∃ A c, e = .returned (.slice A 0 c)) ∧ Ext w w' := by
  go_enter Tryz.func54, Tryz.ntmps54
  go_wp2_with fail
  go_ret
  exact ⟨⟨_, _, rfl⟩, (Ext.refl _).alloc _⟩

end Go.Proofs.YtgkjdgolffnagaaGreatDoor
set_option linter.unusedVariables false
namespace Go.Proofs.YtgkjdgolffnagaaGreatDoor
open Go.RowKit

/-- A node with a kind and a truth of unique. -/
def node (k : Int) (u : Bool) : Array Value := #[.int .i64 k, .int .i64 0, .slice none 0 0, .slice none 0 0, .slice none 0 0, .int .i64 0, .int .i64 0, .int .i64 0, .int .i64 0, .slice none 0 0, .bool false, .slice none 0 0, .slice none 0 0,
  .bool false, .int .i64 0, .bool false, .int .i64 0, .bool false, .slice none 0 0, .bool false, .slice none 0 0, .bool false, .int .i64 0, .bool false, .int .i64 0, .bool false, .int .i64 0, .bool false, .int .i64 0,
  .bool u, .slice none 0 0, .int .i64 0, .int .i64 0, .int .i64 0, .bool false, .int .i64 0, .bool false, .int .i64 0, .slice none 0 0, .slice none 0 0, .slice none 0 0, .slice none 0 0, .slice none 0 0,
  .int .i64 0, .int .i64 0, .int .i64 0, .int .i64 0, .int .i64 0, .bool false, .slice none 0 0, .int .i64 0, .int .i64 0, .slice none 0 0]
theorem z44 : (Tryz.prog.info? 44).map (·.zero) = some (some (.agg (node 0 false))) := by kernel_rfl
theorem s44 : (Tryz.prog.info? 44).map (·.size) = some 53 := by kernel_rfl

/-- A schema's cells. -/
def schema (flags : Bool) (n d : Int) (loc : ByteArray) (bl rq : Value) (mp mt mx mr ms : Option Nat) (uq : Bool) : Array Value := #[.bool flags, .bool flags, .int .i64 n, .int .i64 d, .string loc, bl, .string ⟨#[]⟩, .pointer none, .string ⟨#[]⟩, .pointer none, .pointer none, .pointer none, .pointer none,
  .slice none 0 0, .slice none 0 0, .slice none 0 0, .pointer none, .pointer none, .pointer none, .pointer none, .pointer none, .pointer none, rq, .pointer none, .map mp, .map mt, .nilIface, .map mx, .map mr, .map ms, .pointer none,
  .pointer none, .pointer none, .bool uq, .pointer none, .pointer none, .pointer none, .nilIface, .nilIface, .slice none 0 0, .pointer none, .pointer none, .pointer none, .pointer none, .nilIface,
  .string ⟨#[]⟩, .string ⟨#[]⟩, .pointer none, .string ⟨#[]⟩, .bool false, .bool false, .slice none 0 0, .bool false]
theorem z114 : (Tryz.prog.info? 114).map (·.zero) = some (some (.agg (schema false 0 0 ⟨#[]⟩ (.pointer none) (.slice none 0 0) none none none none none false))) := by kernel_rfl
theorem s114 : (Tryz.prog.info? 114).map (·.size) = some 53 := by kernel_rfl

end Go.Proofs.YtgkjdgolffnagaaGreatDoor
set_option linter.unusedVariables false
namespace Go.Proofs.YtgkjdgolffnagaaGreatDoor
open Go.RowKit

/-- While the schema in block p is set: its cells; the node's; the maps that are made. -/
structure At (w : World) (p : Nat) (nd : Array Value) (cs : Array Value) (ms : List Nat) (wx : World) : Prop where
  g : w.grownBy wx (some p)
  lt : p < w.heap.size
  s : wx.heap[p]? = some (.cells cs 114 (0, 0))
  n : wx.heap[w.heap.size]? = some (.cells nd 44 (0, 0))
  m : ∀ k ∈ ms, k ≠ p ∧ wx.heap[k]? = some (.map #[] 0)

section
variable {w wx wy : World} {p : Nat} {nd cs cs' : Array Value} {ms : List Nat}
theorem At.size (h : At w p nd cs ms wx) : w.heap.size < wx.heap.size := (Array.getElem?_eq_some_iff.1 h.n).1
theorem At.next (h : At w p nd cs ms wx) (g : wx.grownBy wy (some p)) (s : wy.heap[p]? = some (.cells cs' 114 (0, 0))) : At w p nd cs' ms wy := by
  have hn := h.size
  have hl := h.lt
  refine ⟨h.g.trans g, h.lt, s, ?_, fun k hk => ⟨(h.m k hk).1, ?_⟩⟩
  · rw [g.block _ hn (by simp; omega)]; exact h.n
  · have hm := (h.m k hk).2
    rw [g.block _ (Array.getElem?_eq_some_iff.1 hm).1 (by simpa using (h.m k hk).1)]
    exact hm
theorem At.ext (h : At w p nd cs ms wx) (e : Ext wx wy) : At w p nd cs ms wy :=
  h.next ⟨e.os, e.tape, e.output, e.size, fun k hk _ => e.block k hk⟩ (box_ext h.s e)
theorem At.alloc (h : At w p nd cs ms wx) (o : Obj) : At w p nd cs ms (wx.alloc o) := h.ext ((Ext.refl _).alloc o)
theorem At.drew (h : At w p nd cs ms wx) : At w p nd cs ms wx.drew := h.ext (Ext.drewN (Ext.refl _) 1)
theorem At.put (h : At w p nd cs ms wx) (i : Nat) (v : Value) (e : cs.setIfInBounds i v = cs') : At w p nd cs' ms (wx.setCell ⟨p, i, none⟩ v) := by
  refine h.next ⟨rfl, rfl, rfl, by simp [World.setCell], fun k hk hne => box_other (h := rfl) _ (by rintro rfl; exact hne rfl) _⟩ ?_
  rw [← e]; exact box_set h.s i v
theorem At.stay (h : At w p nd cs ms wx) {i : Nat} {v : Value} (e : cs.setIfInBounds i v = cs) : At w p nd cs ms (wx.setCell ⟨p, i, none⟩ v) := h.put i v e
theorem At.made (h : At w p nd cs ms wx) : At w p nd cs (wx.heap.size :: ms) (wx.alloc (.map #[] 0)) := by
  have h2 := h.alloc (.map #[] 0)
  refine ⟨h2.g, h2.lt, h2.s, h2.n, fun k hk => ?_⟩
  rcases List.mem_cons.1 hk with rfl | hk
  · exact ⟨by have := (Array.getElem?_eq_some_iff.1 h.s).1; omega, box_alloc _ _⟩
  · exact h2.m k hk
theorem At.made' (h : At w p nd cs ms wx) {n : Nat} (hn : n = wx.heap.size) : At w p nd cs (n :: ms) (wx.alloc (.map #[] 0)) := by
  subst hn; exact h.made
theorem At.of (hp : w.heap[p]? = some (.cells cs 114 (0, 0))) : At w p nd cs [] (w.alloc (.cells nd 44)) :=
  ⟨⟨rfl, rfl, rfl, by simp, fun k hk _ => Below.heap_alloc _ _ _ hk⟩, (Array.getElem?_eq_some_iff.1 hp).1, box_keep hp _, box_alloc _ _, by simp⟩
end

theorem set_cell_other (W : World) {p b : Nat} (h : b ≠ p) (i j : Nat) (v : Value) : (W.setCell ⟨p, i, none⟩ v).cell? ⟨b, j, none⟩ = W.cell? ⟨b, j, none⟩ := by
  have : (W.setCell ⟨p, i, none⟩ v).heap[b]? = W.heap[b]? := box_other (h := rfl) _ (by simpa using h) _
  simp only [World.cell?, this]

theorem cell_drew (W : World) (a : Addr) : W.drew.cell? a = W.cell? a := rfl
theorem cell_past {W : World} {b j : Nat} {o : Obj} (hb : b < W.heap.size) : (W.alloc o).cell? ⟨b, j, none⟩ = W.cell? ⟨b, j, none⟩ := World.cell?_alloc_past _ _ _ hb
theorem size_drew (W : World) : W.drew.heap.size = W.heap.size := rfl

theorem limit_at (n : Int) (w : World) : Calls Tryz.prog 91 #[.agg #[.bool false, .int .i64 n]] w fun e w' => e = .returned (.pointer none) ∧ w' = w.alloc (.cells #[.bool false, .int .i64 n] 34) := by
  go_enter Tryz.func91, Tryz.ntmps91
  go_wp2_with fail
  go_ret
  exact ⟨rfl, rfl⟩
theorem more_at (s : Value) (n : Int) (w : World) : Calls Tryz.prog 94 #[s, .agg #[.int .i64 0, .int .i64 n]] w fun e w' => e = .returned .nilIface ∧ w' = w.alloc (.cells #[.int .i64 0, .int .i64 n] 41) := by
  go_enter Tryz.func94, Tryz.ntmps94
  go_wp2_with fail
  go_ret
  exact ⟨rfl, rfl⟩
theorem copied_at (w : World) : Calls Tryz.prog 54 #[.slice none 0 0] w fun e w' => e = .returned (.slice (some ⟨w.heap.size, 0, none⟩) 0 0) ∧ w' = w.alloc (.cells #[] 9) := by
  go_enter Tryz.func54, Tryz.ntmps54
  go_wp2_with fail
  go_ret
  exact ⟨rfl, rfl⟩

/-- What older leaves: the map of dependencies. -/
def OldRes (w : World) (p : Nat) (cs : Option Nat → Array Value) (e : Ending) (w' : World) : Prop :=
  e = .returned (.tuple #[]) ∧ ∃ m, m ≠ p ∧ w'.heap[m]? = some (.map #[] 0) ∧ w'.heap[p]? = some (.cells (cs (some m)) 114 (0, 0)) ∧ w.grownBy w' (some p)

set_option maxHeartbeats 16000000 in
set_option maxRecDepth 100000 in
theorem older_c (u : Bool) (rq : Value) (mp mt mr ms : Option Nat) (s : Value) (p : Nat) (w : World) (hp : w.heap[p]? = some (.cells (schema false 0 2020 ⟨#[]⟩ (.pointer none) rq mp mt none mr ms u) 114 (0, 0))) :
    Calls Tryz.prog 95 #[s, .pointer (some ⟨p, 0, none⟩), .agg (node 0 u), .int .i64 1] w (OldRes w p fun mx => schema false 0 2020 ⟨#[]⟩ (.pointer none) rq mp mt mx mr ms u) := by
  have H0 := Sd.mk (At.of (nd := node 0 u) hp)
  clear hp
  have f1 := box_cell H0.out.s
  have f2 := box_frozen H0.out.s
  have f3 := box_cell H0.out.n
  have f4 : w.heap.size < w.heap.size + 1 := by omega
  have g9 := H0.out.lt
  have g0 : p < w.heap.size + 1 := by have := H0.out.lt; omega
  have g1 : p < w.heap.size + 1 + 1 := by omega
  have g2 : p < w.heap.size + 1 + 1 + 1 := by omega
  have g3 : p < w.heap.size + 1 + 1 + 1 + 1 := by omega
  have h1 : w.heap.size < w.heap.size + 1 + 1 := by omega
  have h2 : w.heap.size < w.heap.size + 1 + 1 + 1 := by omega
  have h3 : w.heap.size < w.heap.size + 1 + 1 + 1 + 1 := by omega
  have k2 : w.heap.size < w.heap.size + 1 + 2 := by omega
  have k3 : w.heap.size < w.heap.size + 1 + 3 := by omega
  have k4 : p < w.heap.size + 1 + 2 := by omega
  have k5 : p < w.heap.size + 1 + 3 := by omega
  have e1 : w.heap.size ≤ w.heap.size + 1 := by omega
  have e2 : w.heap.size ≤ w.heap.size + 1 + 1 := by omega
  have e3 : w.heap.size ≤ w.heap.size + 1 + 1 + 1 := by omega
  have e4 : w.heap.size ≤ w.heap.size + 1 + 2 := by omega
  have e5 : p ≤ w.heap.size + 1 := by omega
  have e6 : p ≤ w.heap.size + 1 + 1 := by omega
  have e7 : p ≤ w.heap.size + 1 + 1 + 1 := by omega
  have e8 : p ≤ w.heap.size + 1 + 2 := by omega
  unfold schema at f1
  unfold node at f1 f2 f3 ⊢
  have hmm := @run_makeMap Tryz.prog
  go_enter Tryz.func95, Tryz.ntmps95
  go_upto_region 1 with (fail)
  go_cut [8] from 12 to 15 (fun v8 wx => v8 = .pointer none ∧ Sd (At w p (node 0 u) (schema false 0 2020 ⟨#[]⟩ (.pointer none) rq mp mt none mr ms u) [] wx))
  case first =>
    go_wp2_with (go_at_call 51; refine (at_none _ _ _ _ (by decide)).mono ?_; rintro e w' ⟨rfl, rfl⟩)
    go_meet
    exact ⟨rfl, H0⟩
  case rest =>
  clear f1 f2 f3 f4 g0 g1 g2 g3 h1 h2 h3 g9 H0
  obtain ⟨rfl, H0⟩ := hcut
  have f1 := box_cell H0.out.s
  have f2 := box_frozen H0.out.s
  have f3 := box_cell H0.out.n
  have f4 := H0.out.size
  have g0 : p < wc.heap.size := by have := H0.out.lt; omega
  have g1 : p < wc.heap.size + 1 := by omega
  have g2 : p < wc.heap.size + 1 + 1 := by omega
  have g3 : p < wc.heap.size + 1 + 1 + 1 := by omega
  have h1 : w.heap.size < wc.heap.size + 1 := by omega
  have h2 : w.heap.size < wc.heap.size + 1 + 1 := by omega
  have h3 : w.heap.size < wc.heap.size + 1 + 1 + 1 := by omega
  have k2 : w.heap.size < wc.heap.size + 2 := by omega
  have k3 : w.heap.size < wc.heap.size + 3 := by omega
  have k4 : p < wc.heap.size + 2 := by omega
  have k5 : p < wc.heap.size + 3 := by omega
  have e1 : w.heap.size ≤ wc.heap.size := by omega
  have e2 : w.heap.size ≤ wc.heap.size + 1 := by omega
  have e3 : w.heap.size ≤ wc.heap.size + 1 + 1 := by omega
  have e4 : w.heap.size ≤ wc.heap.size + 2 := by omega
  have e5 : p ≤ wc.heap.size := by omega
  have e6 : p ≤ wc.heap.size + 1 := by omega
  have e7 : p ≤ wc.heap.size + 1 + 1 := by omega
  have e8 : p ≤ wc.heap.size + 2 := by omega
  unfold schema at f1
  unfold node at f3
  go_upto_region 6 with (fail)
  go_cut [] from 33 to 39 (fun wx => Sd (At w p (node 0 u) (schema false 0 2020 ⟨#[]⟩ (.pointer none) rq mp mt none mr ms u) [] wx))
  case first => as_aux_lemma =>
    go_wp2_with (go_at_call 94; refine (more_at _ _ _).mono ?_; rintro e w' ⟨rfl, rfl⟩)
    go_meet
    exact ⟨by repeat (first | exact H0.out | apply At.drew | apply At.alloc | refine At.stay ?_ rfl)⟩
  case rest =>
  clear f1 f2 f3 f4 g0 g1 g2 g3 h1 h2 h3 k2 k3 k4 k5 e1 e2 e3 e4 e5 e6 e7 e8 H0
  have H0 := hcut
  clear hcut
  have f1 := box_cell H0.out.s
  have f2 := box_frozen H0.out.s
  have f3 := box_cell H0.out.n
  have f4 := H0.out.size
  have g0 : p < wc.heap.size := by have := H0.out.lt; omega
  have g1 : p < wc.heap.size + 1 := by omega
  have g2 : p < wc.heap.size + 1 + 1 := by omega
  have g3 : p < wc.heap.size + 1 + 1 + 1 := by omega
  have h1 : w.heap.size < wc.heap.size + 1 := by omega
  have h2 : w.heap.size < wc.heap.size + 1 + 1 := by omega
  have h3 : w.heap.size < wc.heap.size + 1 + 1 + 1 := by omega
  have k2 : w.heap.size < wc.heap.size + 2 := by omega
  have k3 : w.heap.size < wc.heap.size + 3 := by omega
  have k4 : p < wc.heap.size + 2 := by omega
  have k5 : p < wc.heap.size + 3 := by omega
  have e1 : w.heap.size ≤ wc.heap.size := by omega
  have e2 : w.heap.size ≤ wc.heap.size + 1 := by omega
  have e3 : w.heap.size ≤ wc.heap.size + 1 + 1 := by omega
  have e4 : w.heap.size ≤ wc.heap.size + 2 := by omega
  have e5 : p ≤ wc.heap.size := by omega
  have e6 : p ≤ wc.heap.size + 1 := by omega
  have e7 : p ≤ wc.heap.size + 1 + 1 := by omega
  have e8 : p ≤ wc.heap.size + 2 := by omega
  unfold schema at f1
  unfold node at f3
  go_upto_region 7 with (fail)
  go_cut [] from 40 to 43 (fun wx => ∃ mx, Sd (At w p (node 0 u) (schema false 0 2020 ⟨#[]⟩ (.pointer none) rq mp mt (some mx) mr ms u) [mx] wx))
  case first =>
    go_wp2_with fail
    go_meet
    exact ⟨wc.heap.size, ⟨(H0.out.put 27 _ rfl).made' (by simp)⟩⟩
  case rest =>
  clear f1 f2 f3 f4 g0 g1 g2 g3 h1 h2 h3 H0
  obtain ⟨mx, H0⟩ := hcut
  have f1 := box_cell H0.out.s
  have f2 := box_frozen H0.out.s
  have f3 := box_cell H0.out.n
  have f4 := H0.out.size
  have g0 : p < wc.heap.size := by have := H0.out.lt; omega
  have g1 : p < wc.heap.size + 1 := by omega
  have g2 : p < wc.heap.size + 1 + 1 := by omega
  have g3 : p < wc.heap.size + 1 + 1 + 1 := by omega
  have h1 : w.heap.size < wc.heap.size + 1 := by omega
  have h2 : w.heap.size < wc.heap.size + 1 + 1 := by omega
  have h3 : w.heap.size < wc.heap.size + 1 + 1 + 1 := by omega
  have k2 : w.heap.size < wc.heap.size + 2 := by omega
  have k3 : w.heap.size < wc.heap.size + 3 := by omega
  have k4 : p < wc.heap.size + 2 := by omega
  have k5 : p < wc.heap.size + 3 := by omega
  have e1 : w.heap.size ≤ wc.heap.size := by omega
  have e2 : w.heap.size ≤ wc.heap.size + 1 := by omega
  have e3 : w.heap.size ≤ wc.heap.size + 1 + 1 := by omega
  have e4 : w.heap.size ≤ wc.heap.size + 2 := by omega
  have e5 : p ≤ wc.heap.size := by omega
  have e6 : p ≤ wc.heap.size + 1 := by omega
  have e7 : p ≤ wc.heap.size + 1 + 1 := by omega
  have e8 : p ≤ wc.heap.size + 2 := by omega
  unfold schema at f1
  unfold node at f3
  go_wp2_with fail
  go_loop [47] (fun v => v = .int .i64 0) (fun _ => 0)
  case atStart => rfl
  case round =>
    subst hrel
    go_wp2_with fail
    go_end0
    exact ⟨rfl, mx, (H0.out.m mx (by simp)).1, (H0.out.m mx (by simp)).2, H0.out.s, H0.out.g⟩

end Go.Proofs.YtgkjdgolffnagaaGreatDoor

set_option linter.unusedVariables false
namespace Go.Proofs.YtgkjdgolffnagaaGreatDoor
open Go.RowKit

def one : ByteArray := ⟨#[49]⟩
set_option maxRecDepth 100000 in
theorem small_one (w : World) : Calls Tryz.prog 168 #[.int .i64 1] w fun e w' => e = .returned (.string one) ∧ w' = w := by
  go_enter Tryz.func168, Tryz.ntmps168
  go_wp2_with fail
  go_ret
  exact ⟨by unfold one; rfl, rfl⟩
set_option maxRecDepth 100000 in
theorem format_one (w : World) : Calls Tryz.prog 134 #[.int .i64 1, .int .i64 10] w fun e w' => e = .returned (.string one) ∧ w' = w := by
  go_enter Tryz.func134, Tryz.ntmps134
  go_wp2_with (go_at_call 168; refine (small_one _).mono ?_; rintro e w' ⟨rfl, rfl⟩)
  go_ret
  exact ⟨rfl, rfl⟩
theorem itoa_in (w : World) : Calls Tryz.prog 96 #[.int .i64 1] w fun e w' => e = .returned (.string one) ∧ w' = w := by
  go_enter Tryz.func96, Tryz.ntmps96
  go_wp2_with (go_at_call 134; refine (format_one _).mono ?_; rintro e w' ⟨rfl, rfl⟩)
  go_ret
  exact ⟨rfl, rfl⟩
theorem itoa_one (w : World) : Calls Tryz.prog 49 #[.int .i64 1] w fun e w' => e = .returned (.string one) ∧ w' = w := by
  go_enter Tryz.func49, Tryz.ntmps49
  go_wp2_with (go_at_call 96; refine (itoa_in _).mono ?_; rintro e w' ⟨rfl, rfl⟩)
  go_ret
  exact ⟨rfl, rfl⟩

/-- Only block p may have turned. -/
def Turned (p : Nat) (cs : Array Value) (w : World) (e : Ending) (w' : World) : Prop :=
  e = .returned (.tuple #[]) ∧ w'.heap[p]? = some (.cells cs 114 (0, 0)) ∧ w.grownBy w' (some p)
theorem grown_put (w : World) (p i : Nat) (v : Value) : w.grownBy (w.setCell ⟨p, i, none⟩ v) (some p) :=
  ⟨rfl, rfl, rfl, by simp [World.setCell], fun k hk hne => box_other (h := rfl) _ (by rintro rfl; exact hne rfl) _⟩
theorem box_stay {w : World} {p : Nat} {cs : Array Value} {t : TypeId} {fr : Nat × Nat} (h : w.heap[p]? = some (.cells cs t fr)) {i : Nat} {v : Value} (e : cs.setIfInBounds i v = cs) : (w.setCell ⟨p, i, none⟩ v).heap[p]? = some (.cells cs t fr) := by
  rw [box_set h, e]

set_option maxHeartbeats 1000000 in
set_option maxRecDepth 100000 in
theorem evaluated_c (loc : ByteArray) (bl rq : Value) (mp mt mx mr ms : Option Nat) (u : Bool) (p : Nat) (w : World) (hp : w.heap[p]? = some (.cells (schema false 0 2020 loc bl rq mp mt mx mr ms u) 114 (0, 0))) :
    Calls Tryz.prog 50 #[.pointer (some ⟨p, 0, none⟩)] w (Turned p (schema false 0 2020 loc bl rq mp mt mx mr ms u) w) := by
  have H := Sd.mk hp
  have H1 := Sd.mk (box_stay hp (i := 0) (v := .bool false) rfl)
  have H2 := Sd.mk (box_stay H1.out (i := 1) (v := .bool false) rfl)
  have f1 := box_cell hp
  have f2 := box_frozen hp
  have g1 := box_cell H1.out
  have g2 := box_frozen H1.out
  have k1 := box_cell H2.out
  have k2 := box_frozen H2.out
  clear hp
  unfold schema at f1 g1 k1
  go_enter Tryz.func50, Tryz.ntmps50
  go_wp2_with fail
  go_end0
  exact ⟨rfl, box_stay H2.out (i := 2) (v := .int .i64 0) rfl, ((grown_put _ _ _ _).trans (grown_put _ _ _ _)).trans (grown_put _ _ _ _)⟩

end Go.Proofs.YtgkjdgolffnagaaGreatDoor
