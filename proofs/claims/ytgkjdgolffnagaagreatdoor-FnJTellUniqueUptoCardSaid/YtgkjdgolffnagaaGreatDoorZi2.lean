/- Parts of the proof of the statement that this folder hands in: lemmas and contracts (Zi2). -/
import Derived.Test.YtgkjdgolffnagaaGreatDoorKbMg
set_option linter.unusedSimpArgs false
set_option linter.unusedVariables false
namespace Go.Proofs.YtgkjdgolffnagaaGreatDoor
open Go.RowKit

set_option maxHeartbeats 0 in
set_option maxRecDepth 100000 in
theorem validate_iface (dd : TypeId) (yy : Value) (w : World) (loc : ByteArray) (bl rq : Value) (p : Nat) (mp mt mx mr ms : Option Nat) (u : Bool) {N : Nat → Prop} {v : JV} (h : Any w N (.iface dd yy) v) (hs : w.heap[p]? = some (.cells (schema false 0 2020 loc bl rq mp mt mx mr ms u) 114 (0, 0)))
    (A : Prop) (B : Value → World → Prop) (hB : ∀ kx w w', Ext w w' → B kx w → B kx w')
    (H98 : ∀ q ad c s n w1, w1.heap[q]? = some (.cells (vd (.iface dd yy) ad c p s n (.slice none 0 0)) 179 (0, 0)) → w1.heap[s]? = some (.cells #[.pointer (some ⟨p, 0, none⟩), .string ⟨#[]⟩, .int .i64 0, .pointer none] 175 (0, 0)) → w.heap.size ≤ q → Ext w w1 →
      Calls Tryz.prog 98 #[.pointer (some ⟨q, 0, none⟩)] w1 fun e w' => Ext w w' ∧ Out98 loc A B w e w') :
    Calls Tryz.prog 52 #[.pointer (some ⟨p, 0, none⟩), (.iface dd yy)] w (Out52 loc A B w) := by
  have HA := Sd.mk h
  have HS := Sd.mk hs
  have HB := Sd.mk hB
  have H8 := Sd.mk H98
  clear h hs hB H98
  obtain ⟨mc, hmk⟩ := make_strs
  go_enter Tryz.func52, Tryz.ntmps52
  go_upto_region 1 with (fail)
  go_cut [5] from 12 to 21 (fun v5 wx => VdAt (.iface dd yy) p w v5 wx)
  case first =>
    clear H8 HB
    go_region_law (go_simp; go_at_call 97; refine (uneval_c _ _ _ _ _ _ _ _ _ _ (HA.out.ext (by repeat (first | exact Ext.refl _ | apply Ext.drewN _ 1 | apply Ext.alloc))) (by repeat (first | exact HS.out | refine box_keep ?_ _))).mono ?_; rintro e w' ⟨rfl, rfl⟩)
    all_goals
      go_wp2_with fail
      go_meet
      apply VdAt.of
      case h1 =>
        unfold vd
        repeat (first | with_reducible exact box_at (by simp) | with_reducible apply box_keep | with_reducible apply box_drew)
      case h2 => repeat (first | with_reducible exact box_at (by simp) | with_reducible apply box_keep | with_reducible apply box_drew)
      case h3 => omega
      case h4 => repeat (first | with_reducible exact Ext.refl _ | with_reducible apply Ext.drew1 | with_reducible apply Ext.alloc)
  case rest =>
  obtain ⟨q, ad, c, s, n, rfl, HQ, HC, HL, HE⟩ := hcut
  clear hmk
  have a1 := fun D (hD : D ≠ 182) v w => (show (Instr.typeAssert (.iface D v) 121 182 true).run Tryz.prog w = .ok (.tuple #[.pointer none, .bool false]) w from by
    obtain ⟨i, hi, hz⟩ := zero_of (show (Tryz.prog.info? 182).map (·.zero) = some (some (.pointer none)) by kernel_rfl)
    exact as_no Tryz.underlying182 (by simp) hi hz hD v w)
  have a3 := fun v w => (show (Instr.typeAssert (.iface 71 v) 74 71 false).run Tryz.prog w = .ok v w from by simp [Instr.typeAssert, run_underlying Tryz.underlying71, Result.andThen])
  go_wp2_with (go_at_call 98; refine (H8.out q ad c s n _ HQ.out HC.out HL.out HE.out).mono ?_; rintro e w1 ⟨hx, ⟨hA, ⟨y, rfl⟩, he⟩ | ⟨D, k, g, y, hD, hBk, rfl, hE, he⟩⟩; all_goals (have EX := Sd.mk hx; clear hx; first
    | (have HAA := Sd.mk hA; clear hA he)
    | (have X := Sd.mk (And.intro hBk hE); have ⟨A1, c1, hE1⟩ := hE; have f1 := box_cell hE1; have a2 := a1 D hD; have g1 := box_cell (box_ext HS.out he) 4; unfold schema at g1; clear hBk hE hE1 he)))
  · go_ret
    exact ⟨EX.out, .inl ⟨HAA.out, rfl⟩⟩
  · clear a1 a2 a3 f1
    generalize hw : w1.alloc (.cells #[.pointer (some ⟨g, 0, none⟩)] 71) = w2
    have e1 : Ext w1 w2 := hw ▸ (Ext.refl w1).alloc _
    have E1 := Sd.mk e1
    have HH := Sd.mk (show w2.cell? ⟨w1.heap.size, 0, none⟩ = some (.pointer (some ⟨g, 0, none⟩)) from by rw [← hw]; exact box_cell (box_alloc w1 _) 0)
    have g2 : w2.drew.cell? ⟨p, 4, none⟩ = some (.string loc) := e1.cell g1
    have kk := fun o o' => (show ((w2.alloc o).alloc o').drew.cell? ⟨p, 4, none⟩ = some (.string loc) from (((Ext.refl w2).alloc o).alloc o').cell (e1.cell g1))
    have kk1 := fun o => (show (w2.alloc o).drew.cell? ⟨p, 4, none⟩ = some (.string loc) from ((Ext.refl w2).alloc o).cell (e1.cell g1))
    clear hw e1 g1
    go_region_held3 (fun w' => w'.cell? ⟨p, 4, none⟩ = some (.string loc)) (go_keep) (fail)
    all_goals
      go_wp2_with fail
      go_ret
      refine ⟨(((EX.out.trans E1.out).alloc _).alloc _).drew1, .inr ⟨w2.heap.size + 1, rfl, w2.heap.size, w1.heap.size, D, k, g, box_drew (box_at (by simp)), ((((Ext.refl w2).alloc _).alloc _).drew1).cell HH.out, X.out.2.ext (((E1.out.alloc _).alloc _).drew1), HB.out _ _ _ (((E1.out.alloc _).alloc _).drew1) X.out.1⟩⟩

end Go.Proofs.YtgkjdgolffnagaaGreatDoor
