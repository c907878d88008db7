/- Parts of the proof of the statement that this folder hands in: lemmas and contracts (G). -/
import Derived.Test.YtcfgjmdfpnfkjaaGreatDoorH
import Derived.Deep.AppendLies
set_option linter.unusedSimpArgs false
set_option linter.unusedVariables false
set_option linter.unusedSimpArgs false
namespace Go.Proofs.YtcfgjmdfpnfkjaaGreatDoor
open Go.RowKit

def PutResG (W0 : World) (B1 b tb N cap a tc : Nat) (e : Ending) (w' : World) : Prop := e = .returned (.tuple #[]) ∧ LA W0 B1 b tb N cap w' a tc
abbrev ztok : Value := .agg #[.int .i64 0, .string ⟨#[]⟩, .int .i64 0, .int .i64 0, .int .i64 0, .int .i64 0]
theorem info67 : (Tryz.prog.info? 67).map (fun i => (i.zero, i.size, i.bytes)) = some (some ztok, 6, 56) := by kernel_rfl
theorem cells_new {w : World} (cs : Array Value) (t : TypeId) : ∀ (j : Nat) u, cs.toList[j]? = some u → (w.alloc (.cells cs t (0, 0))).cell? ((⟨w.heap.size, 0, none⟩ : Addr).add j) = some u := by
  intro j u h
  have e : (⟨w.heap.size, 0, none⟩ : Addr).add j = ⟨w.heap.size, j, none⟩ := by
    unfold Addr.add; split
    · rename_i h0; subst h0; rfl
    · simp
  rw [e, box_cell (box_alloc w _)]
  simpa using h

section
variable {W0 : World} {B1 b tb N cap : Nat} {w : World} {a tc : Nat} {tv : Value} {sure : Bool} {seen : Nat} {line fr : Int}

theorem _root_.Go.World.ownsRow.of_heap {w w' : World} {b : Nat} {e : TypeId} {sz n : Nat} {v : Value} {xs : List Value} (h : w.ownsRow b e sz v n xs) (hh : w'.heap = w.heap) : w'.ownsRow b e sz v n xs := by
  unfold World.ownsRow at *
  rw [hh]; exact h

/-- A lexer behind an append to its tokens, the new slice not laid down yet. -/
theorem LX.grown (h : LX W0 B1 b tb N cap w a tc tv sure seen line fr) (hS : LS W0 B1 b tb N cap) {w2 : World} (hg : w.grownBy w2 tv.ownBlock) :
    w2.heap[b]? = some (.cells (lx tb N cap a tv sure seen line fr) 101 (0, 0)) ∧ Runes w2 tb N ∧ Ext W0 w2 ∧ B1 ≤ w2.heap.size := by
  obtain ⟨l, l1, l2⟩ := h.toks
  have hlt := fun k hk => l2.lt k hk
  obtain ⟨cur, r1, r2⟩ := h.runes
  have := hS.b1
  have := hS.t1
  have := hS.hb
  refine ⟨box_grown h.cells hg (fun k hk e => ?_), ⟨cur, box_grown r1 hg (fun k hk e => ?_), r2⟩, h.ext.grown hg (Nat.le_refl _) (fun k hk => ?_), Nat.le_trans h.size hg.size⟩
  · have := (hlt k hk).1; omega
  · have := (hlt k hk).1; omega
  · have := (hlt k hk).1; omega

theorem LX.more (h : LX W0 B1 b tb N cap w a tc tv sure seen line fr) {W : World} (e : Ext w W) : LX W0 B1 b tb N cap W a tc tv sure seen line fr := by
  obtain ⟨cur, r1, r2⟩ := h.runes
  obtain ⟨l, l1, l2⟩ := h.toks
  exact ⟨box_ext h.cells e, ⟨cur, box_ext r1 e, r2⟩, ⟨l, l1, owns_ext l2 e⟩, h.seenN, h.tcN, h.aN, Nat.le_trans h.size e.size, h.ext.trans e⟩
/-- The new slice laid down: the lexer has one token more. -/
theorem LX.laid (h : LX W0 B1 b tb N cap w a tc tv sure seen line fr) (hS : LS W0 B1 b tb N cap) {W w2 : World} (hE : Ext w W) {l : List Tk} (hl : l.length = tc) {tv' : Value} (t : Tk) (htc : tc + 1 ≤ N)
    (hown : w2.ownsRow B1 67 6 tv' (tc + 1) (l.flatMap Tk.cells ++ t.cells)) (hg : W.grownBy w2 tv.ownBlock) :
    LX W0 B1 b tb N cap (w2.setCell ⟨b, 2, none⟩ tv') a (tc + 1) tv' sure seen line fr := by
  obtain ⟨h1, ⟨cur, r1, r2⟩, h3, h4⟩ := (h.more hE).grown hS hg
  refine ⟨box_set h1 2 tv', ⟨cur, box_other r1 _ (fun e => hS.ne e.symm) _, r2⟩, ⟨l ++ [t], by simp [hl], ?_⟩, h.seenN, htc, h.aN, by simpa using h4, h3.setCell hS.hb _⟩
  rw [List.flatMap_append]
  simpa using ownsRow_setCell_below hown hS.b1 tv'

set_option maxHeartbeats 4000000 in
set_option maxRecDepth 100000 in
theorem put_c (hS : LS W0 B1 b tb N cap) (h : LX W0 B1 b tb N cap w a tc tv sure seen line fr) (kind : Int) (val : ByteArray) (st : Nat) (hst : st ≤ N) (htc : tc < N) (hok : kind = 16 ∨ kind = 17 → NumS val) :
    Calls Tryz.prog 51 #[.pointer (some ⟨b, 0, none⟩), .int .i64 kind, .string val, .int .i64 st] w (PutResG W0 B1 b tb N cap a (tc + 1)) := by
  obtain ⟨i0, hi, hz0, hz1, hz2⟩ := info_parts info67
  have HS := Sd.mk hS
  have HX0 := Sd.mk h
  have hN := hS.n8
  have HOK := Sd.mk hok
  clear h hS hok
  go_enter Tryz.func51, Tryz.ntmps51
  go_wp2_with fail
  refine (linesM_c HS.out HX0.out st hst).mono ?_
  rintro e w1 ⟨rfl, seen1, line1, fr1, hX⟩
  have HX := Sd.mk hX
  clear hX HX0
  have f := box_cell HX.out.cells
  have fz := box_frozen HX.out.cells
  have fA : ∀ i o, (w1.alloc o).cell? ⟨b, i, none⟩ = (lx tb N cap a tv sure seen1 line1 fr1)[i]? := fun i o => box_cell (box_keep HX.out.cells o) i
  obtain ⟨l, l1, l2⟩ := HX.out.toks
  have HL1 := Sd.mk l1
  have HO := Sd.mk l2
  clear l1 l2
  go_wp2_with fail
  have OW : Sd (∀ (W : World) (o : Obj), W.heap = w1.heap → (W.alloc o).ownsRow B1 67 6 tv tc (l.flatMap Tk.cells)) := ⟨fun W o e => World.ownsRow.alloc (World.ownsRow.of_heap HO.out e) o⟩
  go_region_law (refine step_append_lies _ rfl (.tmp 15) (.tmp 35) 63 rfl B1 67 i0 ztok 6 56 Tryz.underlying63 hi hz0 hz1 hz2 rfl (by decide) tv tc (l.flatMap Tk.cells) rfl (OW.out _ _ rfl) ⟨w1.heap.size, 0, none⟩ 1 1 _ rfl rfl (cells_new _ _) (by simp [Value.oneCell']) (by omega) (by unfold maxLen; omega) (by omega) (by have := HX.out.size; simp; omega) _ rfl ?_; intro g2 cap2 w2 hown hgrow hat hlt; have hG := (HX.out.more ((Ext.refl w1).drewN _ |>.alloc _)).grown HS.out hgrow; have f2 := box_cell hG.1; have fz2 := box_frozen hG.1; have HOW := Sd.mk hown; have HGR := Sd.mk hgrow; clear hown hgrow hat hlt hG)
  all_goals
    go_wp2_with fail
    go_end0
    exact ⟨rfl, _, _, _, _, _, HX.out.laid HS.out ((Ext.refl w1).drewN _ |>.alloc _) HL1.out ⟨kind, val, _, _, _, _, HOK.out⟩ htc HOW.out HGR.out⟩
end

end Go.Proofs.YtcfgjmdfpnfkjaaGreatDoor
