/- Parts of the proof of the statement that this folder hands in: lemmas and contracts (K). -/
import Derived.Test.YtcfgjmdfpnfkjaaGreatDoorJ
import Derived.Test.YtcfgjmdfpnfkjaaGreatDoorE
set_option linter.unusedSimpArgs false
set_option linter.unusedVariables false
set_option linter.unusedSimpArgs false
namespace Go.Proofs.YtcfgjmdfpnfkjaaGreatDoor
open Go.RowKit

theorem many_new {W : World} {n : Nat} (hn : W.heap.size = n) (cs : Array Value) (t : TypeId) : ∀ (j : Nat) u, cs.toList[j]? = some u → (W.alloc (.cells cs t (0, 0))).cell? ⟨n, j, none⟩ = some u := by
  subst hn
  intro j u h
  rw [box_cell (box_alloc W _)]
  simpa using h

section
variable {W0 : World} {B1 b tb N cap : Nat} {w : World} {a tc : Nat} {tv : Value} {sure : Bool} {seen : Nat} {line fr : Int}

set_option maxHeartbeats 16000000 in
set_option maxRecDepth 100000 in
theorem block_c (HP : Sd PutC) (hS : LS W0 B1 b tb N cap) (h : LX W0 B1 b tb N cap w a tc tv sure seen line fr) (ha : a + 3 ≤ N) (htc : tc < N) :
    Calls Tryz.prog 55 #[.pointer (some ⟨b, 0, none⟩)] w (Tok W0 B1 b tb N cap a tc) := by
  obtain ⟨i0, hi, hz0, hz1, hz2⟩ := info_parts info21
  have HS := Sd.mk hS
  have HX := Sd.mk h
  have hN := hS.n8
  have f := box_cell h.cells
  have fz := box_frozen h.cells
  have HB := Sd.mk h.size
  have HTV : Sd (∀ k, tv.ownBlock = some k → k < w.heap.size) := ⟨by obtain ⟨l, l1, l2⟩ := h.toks; exact fun k hk => (l2.lt k hk).2⟩
  have hb1 := hS.b1
  clear h hS
  go_enter Tryz.func55, Tryz.ntmps55
  go_wp2_with fail
  clear f fz
  go_loopg [4] (N - (a + 3)) (fun g v4 wr => ∃ (a' m : Nat) (sure' : Bool), g + a' = N ∧ a + 3 ≤ a' ∧ m ≤ a' ∧ Sd (Own32 wr w.heap.size v4 m) ∧ Sd (LX W0 B1 b tb N cap wr a' tc tv sure' seen line fr) ∧ Sd (w.heap.size ≤ wr.heap.size))
  case atStart => exact ⟨a + 3, 0, sure, by omega, by omega, by omega, ⟨[], by simp, Or.inl ⟨rfl, rfl⟩⟩, ⟨HX.out.set HS.out 1 _ rfl HX.out.seenN (by omega)⟩, ⟨by simp⟩⟩
  case round =>
    obtain ⟨a', m, sure', hg, ha1, hm, HO, HX1, HZ⟩ := hrel
    clear HX
    have f := box_cell HX1.out.cells
    have fz := box_frozen HX1.out.cells
    by_cases hlt : a' < N
    · obtain ⟨r, er, hr0, hr1⟩ := rune_at HX1.out.runes hlt
      have hp' : decide (a' < N) = true := by simpa using hlt
      go_wp2_with fail
      go_quiet (fail)
      go_wp2_with fail
      go_quiet (fail)
      go_upto_region 6 with (fail)
      go_cut [6] (fun v6 wx => ∃ (q : Bool) (k : Nat), v6 = .bool q ∧ Sd (q = true → a' + 3 ≤ N) ∧ wx = wr.drewN k)
      case first =>
        cases q34 : (r == 34)
        · go_wp2_with fail
          go_meet
          exact ⟨false, _, rfl, ⟨fun h => by cases h⟩, rfl⟩
        · go_wp2_with fail
          refine (peek_c HS.out (HX1.out.drew _) 1 (by omega)).mono ?_
          rintro e w2 ⟨r2, n2, rfl, hr02, hr12, hrN2, rfl⟩
          have HRN2 := Sd.mk hrN2
          clear hrN2
          cases q2 : (r2 == 34)
          · go_wp2_with fail
            go_meet
            exact ⟨false, _, rfl, ⟨fun h => by cases h⟩, rfl⟩
          · go_wp2_with fail
            refine (peek_c HS.out (HX1.out.drew _) 2 (by omega)).mono ?_
            rintro e w3 ⟨r3, n3, rfl, hr03, hr13, hrN3, rfl⟩
            have HRN3 := Sd.mk hrN3
            clear hrN3
            cases q3 : (r3 == 34)
            · go_wp2_with fail
              go_meet
              exact ⟨false, _, rfl, ⟨fun h => by cases h⟩, rfl⟩
            · go_wp2_with fail
              go_meet
              exact ⟨true, _, rfl, ⟨fun _ => by have := eq_of_beq q3; have := HRN3.out (by omega); omega⟩, rfl⟩
      case rest =>
        obtain ⟨q, k0, rfl, HQ, rfl⟩ := hcut
        obtain ⟨ns, hns⟩ := HO.out
        have HOn := Sd.mk hns
        clear hns
        cases q
        case true =>
          have ha3 := HQ.out rfl
          have HX2 := Sd.mk ((HX1.out.drew k0).set HS.out 1 (.int .i64 ((a' : Int) + 3)) (a' := a' + 3) rfl HX1.out.seenN (by omega))
          have OW2 : Sd (((wr.drewN k0).setCell ⟨b, 1, none⟩ (.int .i64 ((a' : Int) + 3))).ownsRow w.heap.size 21 1 u4 m (ns.map (.int .i32))) := ⟨ownsRow_setCell_below (show (wr.drewN k0).ownsRow w.heap.size 21 1 u4 m (ns.map (.int .i32)) from HOn.out) (by have := HB.out; show b < _; omega) _⟩
          have hTs : (runesBytes ns).size ≤ 4194304 := by
            have := runesBytes_size_le ns
            have hl := HOn.out.1
            simp at hl
            omega
          go_upto_region 11 with (fail)
          clear f fz
          generalize (wr.drewN k0).setCell ⟨b, 1, none⟩ (.int .i64 ((a' : Int) + 3)) = wy at HX2 OW2
          have f := box_cell HX2.out.cells
          have fz := box_frozen HX2.out.cells
          have hcv : (convert 99 9 u4).run Tryz.prog wy = .ok (.string (runesBytes ns)) wy := conv32 OW2.out
          go_cut [] (fun wx => ∃ sure3, Sd (LX W0 B1 b tb N cap wx (a' + 3) tc tv sure3 seen line fr) ∧ Sd (wx.ownsRow w.heap.size 21 1 u4 m (ns.map (.int .i32))))
          case first =>
            cases sure'
            · go_wp2_with fail
              go_meet
              exact ⟨false, ⟨HX2.out.set HS.out 3 _ rfl HX2.out.seenN (by omega)⟩, ⟨ownsRow_setCell_below OW2.out (by have := HB.out; show b < _; omega) _⟩⟩
            · go_wp2_with fail
              refine (level_c _ _ hTs).mono ?_
              rintro e w5 ⟨⟨bl, rfl⟩, he⟩
              have HX5 := Sd.mk (HX2.out.later he)
              have OW5 := Sd.mk (owns_ext OW2.out he)
              have f5 := box_cell HX5.out.cells
              have fz5 := box_frozen HX5.out.cells
              clear he f fz
              cases bl
              · go_wp2_with fail
                go_meet
                exact ⟨false, ⟨HX5.out.set HS.out 3 _ rfl HX5.out.seenN (by omega)⟩, ⟨ownsRow_setCell_below OW5.out (by have := HB.out; show b < _; omega) _⟩⟩
              · go_wp2_with fail
                refine (peek_c HS.out HX5.out 0 (by omega)).mono ?_
                rintro e w6 ⟨r6, n6, rfl, hr06, hr16, hrN6, rfl⟩
                have HRN6 := Sd.mk hrN6
                clear hrN6
                go_wp2_with fail
                all_goals
                  go_meet
                  exact ⟨_, ⟨(HX5.out.drew _).set HS.out 3 _ rfl HX5.out.seenN (by omega)⟩, ⟨ownsRow_setCell_below (show (w5.drewN _).ownsRow w.heap.size 21 1 u4 m (ns.map (.int .i32)) from OW5.out) (by have := HB.out; show b < _; omega) _⟩⟩
          case rest =>
            obtain ⟨sure3, HX7, OW7⟩ := hcut
            clear f fz HX2 OW2 hcv
            have hcv : (convert 99 9 u4).run Tryz.prog wc = .ok (.string (runesBytes ns)) wc := conv32 OW7.out
            go_wp2_with fail
            refine (blockValue_c _ _ hTs).mono ?_
            rintro e w8 ⟨⟨T, rfl, hT⟩, he⟩
            have HX8 := Sd.mk (HX7.out.later he)
            clear he hcv
            go_wp2_with fail
            refine (HP.out HS.out HX8.out 19 T a (by omega) htc (fun h => absurd h (by omega))).mono ?_
            rintro e w9 ⟨rfl, hLA⟩
            have HLA := Sd.mk hLA
            clear hLA
            go_wp2_with fail
            go_ret
            exact ⟨true, a' + 3, tc + 1, rfl, (fun _ => ⟨by omega, ha3⟩), by omega, HLA.out⟩
        case false =>
          clear HQ
          go_upto_region 14 with (fail)
          go_cut [93] (fun v93 wx => ∃ (q : Bool) (k : Nat), v93 = .bool q ∧ Sd (q = true → a' + 4 ≤ N) ∧ wx = wr.drewN k)
          case first =>
            cases q34 : (r == 92)
            · go_wp2_with fail
              go_meet
              exact ⟨false, _, rfl, ⟨fun h => by cases h⟩, rfl⟩
            · go_wp2_with fail
              refine (peek_c HS.out (HX1.out.drew _) 1 (by omega)).mono ?_
              rintro e w2 ⟨r2, n2, rfl, hr02, hr12, hrN2, rfl⟩
              have HRN2 := Sd.mk hrN2
              clear hrN2
              cases q2 : (r2 == 34)
              · go_wp2_with fail
                go_meet
                exact ⟨false, _, rfl, ⟨fun h => by cases h⟩, rfl⟩
              · go_wp2_with fail
                refine (peek_c HS.out (HX1.out.drew _) 2 (by omega)).mono ?_
                rintro e w3 ⟨r3, n3, rfl, hr03, hr13, hrN3, rfl⟩
                have HRN3 := Sd.mk hrN3
                clear hrN3
                cases q3 : (r3 == 34)
                · go_wp2_with fail
                  go_meet
                  exact ⟨false, _, rfl, ⟨fun h => by cases h⟩, rfl⟩
                · go_wp2_with fail
                  refine (peek_c HS.out (HX1.out.drew _) 3 (by omega)).mono ?_
                  rintro e w4 ⟨r4, n4, rfl, hr04, hr14, hrN4, rfl⟩
                  have HRN4 := Sd.mk hrN4
                  clear hrN4
                  cases q4 : (r4 == 34)
                  · go_wp2_with fail
                    go_meet
                    exact ⟨false, _, rfl, ⟨fun h => by cases h⟩, rfl⟩
                  · go_wp2_with fail
                    go_meet
                    exact ⟨true, _, rfl, ⟨fun _ => by have := eq_of_beq q4; have := HRN4.out (by omega); omega⟩, rfl⟩
          case rest =>
            obtain ⟨q, k1, rfl, HQ, rfl⟩ := hcut
            have OWN : Sd ((wr.drewN k1).ownsRow w.heap.size 21 1 u4 m (ns.map (.int .i32))) := ⟨HOn.out⟩
            cases q
            case true =>
              have ha4 := HQ.out rfl
              go_wp2_with (at_builtin; refine wpList_append_own_at _ rfl (.tmp 111) (.tmp 112) 99 rfl w.heap.size 21 i0 (.int .i32 0) 1 4 Tryz.underlying99 hi hz0 hz1 hz2 rfl (by decide) _ _ _ rfl (OWN.out.alloc _) ⟨wr.heap.size, 0, none⟩ 3 3 [.int .i32 34, .int .i32 34, .int .i32 34] rfl rfl ?c1 (by simp [Value.oneCell']) (by unfold maxLen; omega) (by omega) ?c2 ?_)
              case c1 => exact many_new (W := wr.drewN k1) rfl #[.int .i32 34, .int .i32 34, .int .i32 34] 21
              case c2 => have := HZ.out; (try simp); omega
              intro v' w1 hown' hgrow _ hat
              have HX3 := Sd.mk ((HX1.out.drew _ |>.later (Ext.alloc (Ext.refl _) _)).apart HS.out HB.out HTV.out (fun k hk => (HOn.out.lt k hk).1) hgrow)
              have HO3 := Sd.mk hown'
              have hsz := hgrow.size
              have HZ3 : Sd (w.heap.size ≤ w1.heap.size) := ⟨by have := HZ.out; (try simp at hsz); omega⟩
              clear hown' hgrow hat hsz
              have f1 := box_cell HX3.out.cells
              have fz1 := box_frozen HX3.out.cells
              clear f fz
              go_wp2_with fail
              go_roundg (N - (a' + 4))
              case measure => omega
              case rel => exact ⟨a' + 4, m + 3, sure', by omega, by omega, by omega, ⟨ns ++ [34, 34, 34], by simpa using own_only HO3.out ((Only.refl b w1).set 1 _) (by have := HB.out; omega)⟩, ⟨HX3.out.set HS.out 1 _ rfl HX3.out.seenN (by omega)⟩, ⟨by have := HZ3.out; simpa using this⟩⟩
            case false =>
              go_wp2_with fail
              refine (isSource_c _ _).mono ?_
              rintro e w5 ⟨bs, rfl, rfl⟩
              cases bs
              · go_wp2_with fail
                go_ret
                exact ⟨false, a', tc, rfl, (fun h => by cases h), by omega, _, _, _, _, _, HX1.out.drew _⟩
              · skip
                go_wp2_with (at_builtin; refine wpList_append_own_at _ rfl (.tmp 50) (.tmp 52) 99 rfl w.heap.size 21 i0 (.int .i32 0) 1 4 Tryz.underlying99 hi hz0 hz1 hz2 rfl (by decide) _ _ _ rfl (OWN.out.alloc _) ⟨wr.heap.size, 0, none⟩ 1 1 [.int .i32 r] rfl rfl ?c1 (by simp [Value.oneCell']) (by unfold maxLen; omega) (by omega) ?c2 ?_)
                case c1 => exact one_new rfl _ _
                case c2 => have := HZ.out; (try simp); omega
                intro v' w1 hown' hgrow _ hat
                have HX3 := Sd.mk ((HX1.out.drew _ |>.later (Ext.alloc (Ext.refl _) _)).apart HS.out HB.out HTV.out (fun k hk => (HOn.out.lt k hk).1) hgrow)
                have HO3 := Sd.mk hown'
                have hsz := hgrow.size
                have HZ3 : Sd (w.heap.size ≤ w1.heap.size) := ⟨by have := HZ.out; (try simp at hsz); omega⟩
                clear hown' hgrow hat hsz
                have f1 := box_cell HX3.out.cells
                have fz1 := box_frozen HX3.out.cells
                clear f fz
                go_wp2_with fail
                go_roundg (N - (a' + 1))
                case measure => omega
                case rel => exact ⟨a' + 1, m + 1, sure', by omega, by omega, by omega, ⟨ns ++ [r], by simpa using own_only HO3.out ((Only.refl b w1).set 1 _) (by have := HB.out; omega)⟩, ⟨HX3.out.set HS.out 1 _ rfl HX3.out.seenN (by omega)⟩, ⟨by have := HZ3.out; simpa using this⟩⟩
    · have hp' : decide (a' < N) = false := by simpa using hlt
      go_wp2_with fail
      go_quiet (fail)
      go_wp2_with fail
      go_ret
      exact ⟨false, a', tc, rfl, (fun h => by cases h), by omega, _, _, _, _, _, HX1.out.drew _⟩
end

end Go.Proofs.YtcfgjmdfpnfkjaaGreatDoor
