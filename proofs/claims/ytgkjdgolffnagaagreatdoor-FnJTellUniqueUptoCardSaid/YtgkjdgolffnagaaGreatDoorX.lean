/- Parts of the proof of the statement that this folder hands in: lemmas and contracts (X). -/
import Derived.Test.YtgkjdgolffnagaaGreatDoorRMg
import Derived.Test.YtgkjdgolffnagaaGreatDoorU
import Derived.Test.YtgkjdgolffnagaaGreatDoorKbMg
import Derived.Test.YtgkjdgolffnagaaGreatDoorZd
set_option linter.unusedSimpArgs false
set_option linter.unusedVariables false
namespace Go.Proofs.YtgkjdgolffnagaaGreatDoor
open Go.RowKit

def schema0 : Array Value := schema false 0 0 ⟨#[]⟩ (.pointer none) (.slice none 0 0) none none none none none false
theorem build114 (w : World) : (Instr.build 114 #[]).run Tryz.prog w = .ok (.agg schema0) w := run_build w 114 _ _ (by kernel_rfl)
theorem Ext.turned {a w w' : World} {p : Nat} (h : Ext a w) (g : w.grownBy w' (some p)) (hp : a.heap.size ≤ p) : Ext a w' :=
  ⟨g.os.trans h.os, g.tape.trans h.tape, g.output.trans h.output, Nat.le_trans h.size g.size, fun k hk => by rw [g.block k (Nat.lt_of_lt_of_le hk h.size) (by simp; omega)]; exact h.block k hk⟩
def Kept (L : List (Nat × Obj)) (p : Nat) (w : World) : Prop := ∀ x ∈ L, x.1 ≠ p ∧ w.heap[x.1]? = some x.2
theorem Kept.grown {L : List (Nat × Obj)} {p : Nat} {w w' : World} (h : Kept L p w) (g : w.grownBy w' (some p)) : Kept L p w' := fun x hx => by
  obtain ⟨h1, h2⟩ := h x hx
  exact ⟨h1, by rw [g.block _ (Array.getElem?_eq_some_iff.1 h2).1 (by simpa using h1)]; exact h2⟩
/-- What a schema may be filled with. -/
abbrev Fill := Value → Value → Option Nat → Option Nat → Option Nat → Option Nat → Option Nat → Bool → List (Nat × Obj) → Prop
def SetPost (F : Fill) (p : Nat) (w : World) (e : Ending) (w' : World) : Prop :=
  e = .returned (.tuple #[]) ∧ ∃ bl rq mp mt mx mr ms uq L, F bl rq mp mt mx mr ms uq L ∧ w'.heap[p]? = some (.cells (schema false 0 2020 ⟨#[]⟩ bl rq mp mt mx mr ms uq) 114 (0, 0)) ∧ Kept L p w' ∧ w.grownBy w' (some p)
/-- The schema of one node stands in block p. -/
def Made (F : Fill) (p : Nat) (w' : World) : Prop :=
  ∃ bl rq mp mt mx mr ms uq L, F bl rq mp mt mx mr ms uq L ∧ w'.heap[p]? = some (.cells (schema false 0 2020 one bl rq mp mt mx mr ms uq) 114 (0, 0)) ∧ Kept L p w'
def MadeRes (F : Fill) (w : World) (e : Ending) (w' : World) : Prop := ∃ p, e = .returned (.pointer (some ⟨p, 0, none⟩)) ∧ Made F p w' ∧ Ext w w'
theorem at_one (g c p : Nat) (w : World) (h : w.cell? ⟨g, 0, none⟩ = some (.pointer (some ⟨p, 0, none⟩))) : Calls Tryz.prog 51 #[.slice (some ⟨g, 0, none⟩) 1 c, .int .i64 1, .int .i64 0] w fun e w' => e = .returned (.pointer (some ⟨p, 0, none⟩)) ∧ w' = w := by
  go_enter Tryz.func51, Tryz.ntmps51
  go_wp2_with fail
  go_ret
  exact ⟨rfl, rfl⟩
theorem info99 : (Tryz.prog.info? 69).map (fun i => (i.zero, i.size, i.bytes)) = some (some (.pointer none), 1, 8) := by kernel_rfl

set_option maxHeartbeats 4000000 in
set_option maxRecDepth 100000 in
theorem compiled_c (k : Int) (u : Bool) (F : Fill) (hset : ∀ s p w, w.heap[p]? = some (.cells schema0 114 (0, 0)) → Calls Tryz.prog 48 #[s, .pointer (some ⟨p, 0, none⟩), .agg (node k u), .int .i64 1, .int .i64 2020] w (SetPost F p w))
    (b : Nat) (w : World) (hb : w.heap[b]? = some (.cells (node k u) 44 (0, 0))) :
    Calls Tryz.prog 26 #[.slice (some ⟨b, 0, none⟩) 1 1, .int .i64 2020] w (MadeRes F w) := by
  have HSET := Sd.mk hset
  clear hset
  have HB := Sd.mk hb
  clear hb
  obtain ⟨i0, hi, hz0, hz1, hz2⟩ := info_parts info99
  go_enter Tryz.func26, Tryz.ntmps26
  go_wp2_with fail
  go_loopg [5, 10] 1 (fun g v5 v10 wr => ∃ (j : Nat) (xs : List Value), v10 = .int .i64 j ∧ g + j = 1 ∧ Sd (Ext w wr) ∧ xs.length = j ∧ Sd (wr.ownsRow w.heap.size 69 1 v5 xs.length xs) ∧
    Sd (j = 1 → ∃ p, xs = [.pointer (some ⟨p, 0, none⟩)] ∧ w.heap.size ≤ p ∧ v5.ownBlock ≠ some p ∧ wr.heap[p]? = some (.cells (schema false 0 0 ⟨#[]⟩ (.pointer none) (.slice none 0 0) none none none none none false) 114 (0, 0))))
  case atStart => exact ⟨0, [], rfl, rfl, ⟨Ext.refl _⟩, rfl, ⟨⟨rfl, .inl ⟨rfl, rfl⟩⟩⟩, ⟨fun h => absurd h (by simp)⟩⟩
  case round =>
    obtain ⟨j, xs, rfl, hg, HE, hx, HO, HX⟩ := hrel
    by_cases hj : j = 0
    · subst hj
      have hx0 : xs = [] := List.eq_nil_of_length_eq_zero hx
      subst hx0
      clear HX
      go_wp2_with fail
      refine wp_build' 114 #[] rfl schema0 (by intro w; simpa using build114 w) ?_
      go_wp2_with (at_builtin; refine wpList_append_own_at _ rfl (.tmp 12) (.tmp 15) 99 rfl w.heap.size 69 i0 (.pointer none) 1 8 Tryz.underlying99 hi hz0 hz1 hz2 rfl (by decide) _ _ _ rfl ((HO.out.alloc _).alloc _) ⟨wr.heap.size + 1, 0, none⟩ 1 1 [.pointer (some ⟨wr.heap.size, 0, none⟩)] rfl rfl ?c1 ?c2 ?c3 ?c4 ?c5 ?_)
      case c1 => have h := cell_one_new (wr.alloc (.cells schema0 114)) (.pointer (some ⟨wr.heap.size, 0, none⟩)) 69; simpa using h
      case c2 => simp [Value.oneCell']
      case c3 => simp [maxLen]
      case c4 => simp
      case c5 => have := HE.out.size; simp; omega
      intro v' w1 hown' hgrow _ hat
      have HG := Sd.mk hgrow
      have HW := Sd.mk hat
      have HO1 := Sd.mk hown'
      clear hown' hgrow hat
      go_wp2_with fail
      go_roundg 0
      case measure => omega
      case rel =>
        have hs := HE.out.size
        have hne : u5.ownBlock ≠ some wr.heap.size := fun e => by have := (HO.out.lt _ e).2; omega
        refine ⟨1, [.pointer (some ⟨wr.heap.size, 0, none⟩)], rfl, rfl, ⟨Ext.grown ((HE.out.alloc _).alloc _) HG.out (Nat.le_refl _) (owns_base HO.out)⟩, rfl, ⟨by simpa using HO1.out⟩, ⟨fun _ => ⟨wr.heap.size, rfl, hs, ?_, ?_⟩⟩⟩
        · rcases HW.out with e | e
          · rw [e]; exact hne
          · rw [e]; simp; omega
        · rw [HG.out.block _ (by simp; omega) (fun e => hne e.symm), Below.heap_alloc _ _ _ (by simp)]
          exact box_alloc _ _
    · have hj1 : j = 1 := by omega
      subst hj1
      obtain ⟨p, rfl, hp1, hp2, hp3⟩ := HX.out rfl
      have HP := Sd.mk hp3
      have HN := Sd.mk hp2
      rcases HO.out.2 with ⟨_, h0⟩ | ⟨g, cap, cur, rfl, hbg, _⟩
      · exact absurd h0 (by simp)
      have HC := Sd.mk (HO.out.cells (g := g) rfl 0 (.pointer (some ⟨p, 0, none⟩)) rfl)
      have hgw := (HO.out.lt g rfl).2
      clear hp2 hp3 HX
      go_wp2_with fail
      have hgp : g ≠ p := fun e => HN.out (by rw [e]; rfl)
      go_loopg [20] 1 (fun g2 v20 wx => ∃ j2 : Nat, v20 = .int .i64 j2 ∧ g2 + j2 = 1 ∧ Sd (Ext w wx) ∧ Sd (wx.cell? ⟨g, 0, none⟩ = some (.pointer (some ⟨p, 0, none⟩))) ∧
        Sd (j2 = 0 → wx.heap[p]? = some (.cells (schema false 0 0 ⟨#[]⟩ (.pointer none) (.slice none 0 0) none none none none none false) 114 (0, 0))) ∧ Sd (j2 = 1 → Made F p wx))
      case atStart => exact ⟨0, rfl, rfl, HE, ⟨by have := HC.out; rw [Addr.add_zero'] at this; exact this⟩, ⟨fun _ => HP.out⟩, ⟨fun h => absurd h (by simp)⟩⟩
      case round =>
        obtain ⟨j2, rfl, hg2, HE2, HC2, HZ, HM⟩ := hrel
        by_cases hj2 : j2 = 0
        · subst hj2
          have hgl := (Array.getElem?_eq_some_iff.1 (box_ext HB.out HE2.out)).1
          go_wp2_with (first
            | (refine wpList_load_row rfl 44 _ rfl b rfl 44 (node k u) (0, 0) _ (box_ext HB.out HE2.out) Tryz.underlying44 rfl s44 ?_)
            | (refine wpList_store_row rfl 44 _ _ rfl _ (node k u) (node 0 false) rfl rfl 44 (box_alloc _ _) rfl s44 (o44 k u) ?_; intro wn hn1 hn2; have HN := Sd.mk hn1; have HEn := Sd.mk (Ext.turned ((Ext.refl wr).alloc _) hn2 (Nat.le_refl _)); clear hn1 hn2)
            | fail)
          have hc9 := HEn.out.cell HC2.out
          have HP9 := Sd.mk (box_ext (HZ.out (by trivial)) HEn.out)
          have HB9 := Sd.mk (box_ext HB.out (HE2.out.trans HEn.out))
          clear HM HZ hgl HP
          refine wp_region_still_tail 9 (by kernel_rfl) (by kernel_rfl) ?_
          simp only [List.take_succ_cons, List.take_zero, List.drop_succ_cons, List.drop_zero]
          repeat (first | (refine wpStill_load_row rfl 44 _ rfl wr.heap.size rfl 44 (node k u) (0, 0) _ HN.out Tryz.underlying44 rfl s44 ?_) | still_step)
          try refine wpStill_nil ?_
          change wpList _ _ _ _ _ (World.drew _)
          go_wp2_with (go_at_call 48; refine (HSET.out _ p (World.drew _) HP9.out).mono ?_; rintro e w2 ⟨rfl, bl, rq, mp, mt, mx, mr, ms, uq, L, hF, hs2, hk2, hg2'⟩; have HS2 := Sd.mk hs2; have HK2 := Sd.mk hk2; have HG2 := Sd.mk hg2'; have HF := Sd.mk hF; clear hs2 hk2 hg2' hF)
          have hpg : p ≠ g := fun e => hgp e.symm
          have hgn := World.block_lt_of_cell? _ _ hc9
          have HC3 : w2.cell? ⟨g, 0, none⟩ = some (.pointer (some ⟨p, 0, none⟩)) := (HG2.out.cell_far ⟨g, 0, none⟩ hgn (by simpa using hgp)).trans hc9
          have f4 := box_cell HS2.out 4
          have f5 := box_frozen HS2.out 4
          clear hc9
          go_upto_region 10 with (fail)
          have e1 : w2.drew.cell? ⟨g, 0, none⟩ = some (.pointer (some ⟨p, 0, none⟩)) := HC3
          go_region_held3 (fun w' => w'.cell? ⟨g, 0, none⟩ = some (.pointer (some ⟨p, 0, none⟩))) (go_keep) (first | (go_at_call 49; refine (itoa_one _).mono ?_; rintro e w' ⟨rfl, rfl⟩))
          all_goals
            have HS4 : Sd ((w2.setCell ⟨p, 4, none⟩ (.string one)).heap[p]? = some (.cells (schema false 0 2020 one bl rq mp mt mx mr ms uq) 114 (0, 0))) := ⟨by have := box_set HS2.out 4 (.string one); exact this⟩
            have HG4 := Sd.mk (HG2.out.trans (grown_put w2 p 4 (.string one)))
            have HK4 := Sd.mk (HK2.out.grown (grown_put w2 p 4 (.string one)))
            go_wp2_with (go_at_call 50; refine (evaluated_c one bl rq mp mt mx mr ms uq p (w2.setCell ⟨p, 4, none⟩ (.string one)).drew HS4.out).mono ?_; rintro e w5 ⟨rfl, hs5, hg5⟩; have HS5 := Sd.mk hs5; have HG5 := Sd.mk (show (w2.setCell ⟨p, 4, none⟩ (.string one)).grownBy w5 (some p) from ⟨hg5.os, hg5.tape, hg5.output, hg5.size, hg5.block⟩); clear hs5 hg5)
            go_roundg 0
            case measure => omega
            case rel =>
              have hwn := HEn.out.size
              have hgw : w.heap.size ≤ g := hbg
              have X1 : Ext w wn := HE2.out.trans HEn.out
              have X2 : Ext w w5 := Ext.turned X1 ((⟨HG4.out.os, HG4.out.tape, HG4.out.output, HG4.out.size, HG4.out.block⟩ : wn.grownBy _ (some p)).trans HG5.out) hp1
              refine ⟨1, by rfl, rfl, ⟨X2⟩, ⟨?_⟩, ⟨fun h => absurd h (by simp)⟩, ⟨fun _ => ⟨bl, rq, mp, mt, mx, mr, ms, uq, L, HF.out, HS5.out, HK4.out.grown HG5.out⟩⟩⟩
              have hg2l := World.block_lt_of_cell? _ _ HC3
              have z1 := (grown_put w2 p 4 (.string one)).cell_far ⟨g, 0, none⟩ hg2l (by simpa using hgp)
              have z2 := HG5.out.cell_far ⟨g, 0, none⟩ (by simpa [World.setCell] using hg2l) (by simpa using hgp)
              rw [z2, z1]
              exact HC3
        · have hj3 : j2 = 1 := by omega
          subst hj3
          have MM := Sd.mk (HM.out rfl)
          have c0 := HC2.out
          clear HM HZ
          go_wp2_with (go_at_call 51; refine (at_one _ _ _ _ c0).mono ?_; rintro e w' ⟨rfl, rfl⟩)
          go_ret
          exact ⟨p, rfl, MM.out, HE2.out⟩

end Go.Proofs.YtgkjdgolffnagaaGreatDoor
