/- Parts of the proof of the statement that this folder hands in: lemmas and contracts (J). -/
import Derived.Test.YtcfgjmdfpnfkjaaGreatDoorI
import Derived.Maps.AppendAt
set_option linter.unusedSimpArgs false
set_option linter.unusedVariables false
set_option linter.unusedSimpArgs false
namespace Go.Proofs.YtcfgjmdfpnfkjaaGreatDoor
open Go.RowKit

theorem info21 : (Tryz.prog.info? 21).map (fun i => (i.zero, i.size, i.bytes)) = some (some (.int .i32 0), 1, 4) := by kernel_rfl
/-- Runes that the call itself has gathered. -/
def Own32 (w : World) (B : Nat) (v : Value) (m : Nat) : Prop := ∃ ns : List Int, w.ownsRow B 21 1 v m (ns.map (.int .i32))
theorem Own32.conv {w : World} {B m : Nat} {v : Value} (h : Own32 w B v m) : ∃ T : ByteArray, T.size ≤ 4 * m ∧ ∀ W : World, W.heap = w.heap → (convert 99 9 v).run Tryz.prog W = .ok (.string T) W := by
  obtain ⟨ns, hl, ⟨rfl, hm⟩ | ⟨g, cap, cur, rfl, h2, h3, h4, h5, h6, h7⟩⟩ := h
  · exact ⟨.empty, by simp, fun W _ => run_convert_runes_nil W 99 9 21 0 0 Tryz.underlying99 Tryz.underlying21 Tryz.underlying9⟩
  · have hns : ns.length = m := by simpa using hl
    refine ⟨runesBytes (ns.take m), Nat.le_trans (runesBytes_size_le _) (by simp; omega), fun W hW => run_convert_runes W 99 9 21 ⟨g, 0, none⟩ m cap ns (by omega) Tryz.underlying99 Tryz.underlying21 Tryz.underlying9 ?_⟩
    intro j hj
    have ea : (⟨g, 0, none⟩ : Addr).add j = ⟨g, j, none⟩ := by unfold Addr.add; split <;> simp_all
    have hc : W.cell? ⟨g, j, none⟩ = cur[j]? := by
      have : W.heap[g]? = some (.cells cur 21 (0, 0)) := by rw [hW]; exact h3
      exact box_cell this _
    have : (cur.toList.take (m * 1))[j]? = (ns.map (Value.int .i32))[j]? := by rw [h7]
    rw [List.getElem?_take_of_lt (by omega)] at this
    rw [ea, hc]
    simpa [List.getD, List.getElem?_eq_getElem hj] using this

theorem conv32 {W : World} {B m : Nat} {v : Value} {ns : List Int} (h : W.ownsRow B 21 1 v m (ns.map (.int .i32))) : (convert 99 9 v).run Tryz.prog W = .ok (.string (runesBytes ns)) W := by
  obtain ⟨hl, ⟨rfl, hm⟩ | ⟨g, cap, cur, rfl, h2, h3, h4, h5, h6, h7⟩⟩ := h
  · have : ns = [] := by cases ns with | nil => rfl | cons x r => simp [hm] at hl
    subst this
    exact run_convert_runes_nil W 99 9 21 0 0 Tryz.underlying99 Tryz.underlying21 Tryz.underlying9
  · have hns : ns.length = m := by simpa using hl
    have := run_convert_runes (P := Tryz.prog) W 99 9 21 ⟨g, 0, none⟩ m cap ns (by omega) Tryz.underlying99 Tryz.underlying21 Tryz.underlying9 ?_
    · rwa [List.take_of_length_le (by omega)] at this
    intro j hj
    have ea : (⟨g, 0, none⟩ : Addr).add j = ⟨g, j, none⟩ := by unfold Addr.add; split <;> simp_all
    have : (cur.toList.take (m * 1))[j]? = (ns.map (Value.int .i32))[j]? := by rw [h7]
    rw [List.getElem?_take_of_lt (by omega)] at this
    rw [ea, box_cell h3]
    simpa [List.getD, List.getElem?_eq_getElem hj] using this

section
variable {W0 : World} {B1 b tb N cap : Nat} {w : World} {a tc : Nat} {tv : Value} {sure : Bool} {seen : Nat} {line fr : Int}

/-- A lexer behind an append to another row of the call's own. -/
theorem LX.apart (h : LX W0 B1 b tb N cap w a tc tv sure seen line fr) (hS : LS W0 B1 b tb N cap) {B2 : Nat} (hB : B1 ≤ B2) (htv : ∀ k, tv.ownBlock = some k → k < B2) {w2 : World} {v : Value} (hv : ∀ k, v.ownBlock = some k → B2 ≤ k) (hg : w.grownBy w2 v.ownBlock) :
    LX W0 B1 b tb N cap w2 a tc tv sure seen line fr := by
  obtain ⟨cur, r1, r2⟩ := h.runes
  obtain ⟨l, l1, l2⟩ := h.toks
  have := hS.b1
  have := hS.t1
  have := hS.hb
  refine ⟨box_grown h.cells hg (fun k hk e => ?_), ⟨cur, box_grown r1 hg (fun k hk e => ?_), r2⟩, ⟨l, l1, ?_⟩, h.seenN, h.tcN, h.aN, Nat.le_trans h.size hg.size, h.ext.grown hg (Nat.le_refl _) (fun k hk => ?_)⟩
  · have := hv k hk; omega
  · have := hv k hk; omega
  · refine l2.kept hg ?_
    cases hq : tv.ownBlock with
    | none => exact Or.inl rfl
    | some k => exact Or.inr (fun e => by have := htv k hq; have := hv k e.symm; omega)
  · have := hv k hk; omega

theorem own_only {w w' : World} {b B e sz n : Nat} {v : Value} {xs : List Value} (h1 : w.ownsRow B e sz v n xs) (ho : Only b w w') (hb : b < B) : w'.ownsRow B e sz v n xs := by
  obtain ⟨hl, h2 | ⟨g, cap, cur, h2, h3, h4, h5⟩⟩ := h1
  · exact ⟨hl, Or.inl h2⟩
  · exact ⟨hl, Or.inr ⟨g, cap, cur, h2, h3, by rw [ho.2 g (Array.getElem?_eq_some_iff.1 h4).1 (by omega)]; exact h4, h5⟩⟩
theorem LX.later (h : LX W0 B1 b tb N cap w a tc tv sure seen line fr) {W : World} (e : Ext w W) : LX W0 B1 b tb N cap W a tc tv sure seen line fr := by
  obtain ⟨cur, r1, r2⟩ := h.runes
  obtain ⟨l, l1, l2⟩ := h.toks
  exact ⟨box_ext h.cells e, ⟨cur, box_ext r1 e, r2⟩, ⟨l, l1, owns_ext l2 e⟩, h.seenN, h.tcN, h.aN, Nat.le_trans h.size e.size, h.ext.trans e⟩
theorem one_new {W : World} {n : Nat} (hn : W.heap.size = n) (v : Value) (t : TypeId) : ∀ (j : Nat) u, [v][j]? = some u → (W.alloc (.cells #[v] t (0, 0))).cell? ((⟨n, 0, none⟩ : Addr).add j) = some u := by
  subst hn; exact cell_one_new v t
theorem Own32.only {w w' : World} {b B m : Nat} {v : Value} (h : Own32 w B v m) (ho : Only b w w') (hb : b < B) : Own32 w' B v m := by
  obtain ⟨ns, h1⟩ := h
  obtain ⟨hl, h2 | ⟨g, cap, cur, h2, h3, h4, h5⟩⟩ := h1
  · exact ⟨ns, hl, Or.inl h2⟩
  · exact ⟨ns, hl, Or.inr ⟨g, cap, cur, h2, h3, by rw [ho.2 g (Array.getElem?_eq_some_iff.1 h4).1 (by omega)]; exact h4, h5⟩⟩
theorem Own32.below {w : World} {B m : Nat} {v : Value} (h : Own32 w B v m) : ∀ k, v.ownBlock = some k → B ≤ k ∧ k < w.heap.size := by
  obtain ⟨ns, h1⟩ := h
  exact fun k hk => h1.lt k hk

set_option maxHeartbeats 8000000 in
set_option maxRecDepth 100000 in
theorem quoted_c (HP : Sd PutC) (hS : LS W0 B1 b tb N cap) (h : LX W0 B1 b tb N cap w a tc tv sure seen line fr) (ha : a < N) (htc : tc < N) :
    Calls Tryz.prog 56 #[.pointer (some ⟨b, 0, none⟩)] w (Tok W0 B1 b tb N cap a tc) := by
  obtain ⟨i0, hi, hz0, hz1, hz2⟩ := info_parts info21
  have HS := Sd.mk hS
  have HX := Sd.mk h
  have hN := hS.n8
  have f := box_cell h.cells
  have fz := box_frozen h.cells
  have HB := Sd.mk h.size
  have HTV : Sd (∀ k, tv.ownBlock = some k → k < w.heap.size) := ⟨by obtain ⟨l, l1, l2⟩ := h.toks; exact fun k hk => (l2.lt k hk).2⟩
  have hb1 := hS.b1
  clear h hS
  go_enter Tryz.func56, Tryz.ntmps56
  go_wp2_with fail
  clear f fz
  go_loopg [4] (N - (a + 1)) (fun g v4 wr => ∃ (a' m : Nat) (sure' : Bool), g + a' = N ∧ a + 1 ≤ a' ∧ m ≤ a' ∧ Sd (Own32 wr w.heap.size v4 m) ∧ Sd (LX W0 B1 b tb N cap wr a' tc tv sure' seen line fr) ∧ Sd (w.heap.size ≤ wr.heap.size))
  case atStart => exact ⟨a + 1, 0, sure, by omega, by omega, by omega, ⟨[], by simp, Or.inl ⟨rfl, rfl⟩⟩, ⟨HX.out.set HS.out 1 _ rfl HX.out.seenN (by omega)⟩, ⟨by simp⟩⟩
  case round =>
    obtain ⟨a', m, sure', hg, ha1, hm, HO, HX1, HZ⟩ := hrel
    clear HX
    have f := box_cell HX1.out.cells
    have fz := box_frozen HX1.out.cells
    by_cases hlt : a' < N
    · obtain ⟨r, er, hr0, hr1⟩ := rune_at HX1.out.runes hlt
      have hp' : decide (a' < N) = true := by simpa using hlt
      go_wp2_with fail
      go_quiet (fail)
      go_wp2_with fail
      go_quiet (fail)
      have HX2 : Sd (∀ k, LX W0 B1 b tb N cap ((wr.drewN k).setCell ⟨b, 1, none⟩ (.int .i64 ((a' : Int) + 1))) (a' + 1) tc tv sure' seen line fr) := ⟨fun k => (HX1.out.drew k).set HS.out 1 _ rfl HX1.out.seenN (by omega)⟩
      obtain ⟨ns, hns⟩ := HO.out
      have HOn := Sd.mk hns
      clear hns
      have OWN : Sd (∀ k, ((wr.drewN k).setCell ⟨b, 1, none⟩ (.int .i64 ((a' : Int) + 1))).ownsRow w.heap.size 21 1 u4 m (ns.map (.int .i32))) := ⟨fun k => ownsRow_setCell_below (show (wr.drewN k).ownsRow w.heap.size 21 1 u4 m (ns.map (.int .i32)) from HOn.out) (by have := HB.out; show b < _; omega) _⟩
      have OND : Sd (∀ k, Only b wr ((wr.drewN k).setCell ⟨b, 1, none⟩ (.int .i64 ((a' : Int) + 1)))) := ⟨fun k => ((Only.refl b wr).drew k).set 1 _⟩
      cases q34 : (r == 34)
      · cases q10 : (r == 10)
        · cases q13 : (r == 13)
          · go_wp2_with fail
            refine (isSource_c _ _).mono ?_
            rintro e w5 ⟨bs, rfl, rfl⟩
            cases bs
            · go_wp2_with fail
              go_ret
              exact ⟨false, a' + 1, tc, rfl, (fun h => by cases h), by omega, _, _, _, _, _, HX2.out _⟩
            · cases q92 : (r == 92)
              · go_wp2_with (at_builtin; refine wpList_append_own_at _ rfl (.tmp 46) (.tmp 48) 99 rfl w.heap.size 21 i0 (.int .i32 0) 1 4 Tryz.underlying99 hi hz0 hz1 hz2 rfl (by decide) _ _ _ rfl ((OWN.out _).alloc _) ⟨wr.heap.size, 0, none⟩ 1 1 [.int .i32 r] rfl rfl ?c1 (by simp [Value.oneCell']) (by unfold maxLen; omega) (by omega) ?c2 ?_)
                case c1 => exact one_new (by simp) _ _
                case c2 => have := HZ.out; simp; omega
                intro v' w1 hown' hgrow _ hat
                have HX3 := Sd.mk (((HX2.out _).later (Ext.alloc (Ext.refl _) _)).apart HS.out HB.out HTV.out (fun k hk => (HOn.out.lt k hk).1) hgrow)
                have HO3 := Sd.mk hown'
                have hsz := hgrow.size
                have HZ3 : Sd (w.heap.size ≤ w1.heap.size) := ⟨by have := HZ.out; simp at hsz; omega⟩
                clear hown' hgrow hat hsz
                go_wp2_with fail
                go_roundg (N - (a' + 1))
                case measure => omega
                case rel => exact ⟨a' + 1, m + 1, sure', by omega, by omega, by omega, ⟨ns ++ [r], by simpa using HO3.out⟩, HX3, HZ3⟩
              · go_wp2_with fail
                refine (escape_c HS.out (HX2.out _) (by omega)).mono ?_
                rintro e w6 ⟨ok, r6, a6, rfl, hok, ha6, ha6N, ⟨sure6, hX6⟩, hO6⟩
                have OWN6 := Sd.mk (own_only (OWN.out _) hO6 (by have := HB.out; omega))
                have HX6 := Sd.mk hX6
                have HZ6 : Sd (w.heap.size ≤ w6.heap.size) := ⟨by have h1 := HZ.out; have h2 := hO6.1; simp at h2; omega⟩
                have HOK := Sd.mk hok
                clear hX6 hO6 hok
                cases ok
                · go_wp2_with fail
                  go_ret
                  exact ⟨false, a6, tc, rfl, (fun h => by cases h), by omega, _, _, _, _, _, HX6.out⟩
                · have ha6' := HOK.out rfl
                  go_wp2_with (at_builtin; refine wpList_append_own_at _ rfl (.tmp 80) (.tmp 82) 99 rfl w.heap.size 21 i0 (.int .i32 0) 1 4 Tryz.underlying99 hi hz0 hz1 hz2 rfl (by decide) _ _ _ rfl (OWN6.out.alloc _) ⟨w6.heap.size, 0, none⟩ 1 1 [.int .i32 r6] rfl rfl (one_new rfl _ _) (by simp [Value.oneCell']) (by unfold maxLen; omega) (by omega) ?c2 ?_)
                  case c2 => have := HZ6.out; simp; omega
                  intro v' w1 hown' hgrow _ hat
                  have HX3 := Sd.mk ((HX6.out.later (Ext.alloc (Ext.refl _) _)).apart HS.out HB.out HTV.out (fun k hk => (HOn.out.lt k hk).1) hgrow)
                  have HO3 := Sd.mk hown'
                  have hsz := hgrow.size
                  have HZ3 : Sd (w.heap.size ≤ w1.heap.size) := ⟨by have := HZ6.out; simp at hsz; omega⟩
                  clear hown' hgrow hat hsz
                  go_wp2_with fail
                  go_roundg (N - a6)
                  case measure => omega
                  case rel => exact ⟨a6, m + 1, sure6, by omega, by omega, by omega, ⟨ns ++ [r6], by simpa using HO3.out⟩, HX3, HZ3⟩
          · go_wp2_with fail
            go_ret
            exact ⟨false, a' + 1, tc, rfl, (fun h => by cases h), by omega, _, _, _, _, _, HX2.out _⟩
        · go_wp2_with fail
          go_ret
          exact ⟨false, a' + 1, tc, rfl, (fun h => by cases h), by omega, _, _, _, _, _, HX2.out _⟩
      · have hcv : ∀ k, (convert 99 9 u4).run Tryz.prog ((wr.drewN k).setCell ⟨b, 1, none⟩ (.int .i64 ((a' : Int) + 1))) = .ok (.string (runesBytes ns)) ((wr.drewN k).setCell ⟨b, 1, none⟩ (.int .i64 ((a' : Int) + 1))) := fun k => conv32 (OWN.out k)
        go_wp2_with (go_at_call 51; refine (HP.out HS.out (HX2.out _) 18 _ a (by omega) htc (fun h => absurd h (by omega))).mono ?_; rintro e w9 ⟨rfl, hLA⟩; have HLA := Sd.mk hLA; clear hLA)
        go_ret
        exact ⟨true, a' + 1, tc + 1, rfl, (fun _ => ⟨by omega, by omega⟩), by omega, HLA.out⟩
    · have hp' : decide (a' < N) = false := by simpa using hlt
      go_wp2_with fail
      go_quiet (fail)
      go_wp2_with fail
      go_ret
      exact ⟨false, a', tc, rfl, (fun h => by cases h), by omega, _, _, _, _, _, HX1.out.drew _⟩
end

end Go.Proofs.YtcfgjmdfpnfkjaaGreatDoor
