/- Parts of the proof of the statement that this folder hands in: lemmas and contracts (M). -/
import Derived.Test.YtcfgjmdfpnfkjaaGreatDoorIb
set_option linter.unusedSimpArgs false
set_option linter.unusedVariables false
set_option linter.unusedSimpArgs false
namespace Go.Proofs.YtcfgjmdfpnfkjaaGreatDoor
open Go.RowKit

theorem stB_pos {r : Int} (h : stB r = true) : 1 ≤ r := by simp [stB] at h; omega

section
variable {W0 : World} {B1 b tb N cap : Nat} {w : World} {a tc : Nat} {tv : Value} {sure : Bool} {seen : Nat} {line fr : Int}

set_option maxHeartbeats 16000000 in
set_option maxRecDepth 100000 in
theorem token_c (HP : Sd PutC) (hS : LS W0 B1 b tb N cap) (h : LX W0 B1 b tb N cap w a tc tv sure seen line fr) (ha : a < N) (htc : tc ≤ a) :
    Calls Tryz.prog 37 #[.pointer (some ⟨b, 0, none⟩)] w (Tok W0 B1 b tb N cap a tc) := by
  have HS := Sd.mk hS
  have HX := Sd.mk h
  have hN := hS.n8
  have hnc := hS.nc
  have f := box_cell h.cells
  have fz := box_frozen h.cells
  obtain ⟨r, er, hr0, hr1⟩ := rune_at h.runes ha
  have ER := Sd.mk er
  have hp' : decide (a < N) = true := by simpa using ha
  clear h hS
  go_enter Tryz.func37, Tryz.ntmps37
  go_wp2_with fail
  go_quiet (fail)
  clear er
  go_upto_region 3 with (fail)
  go_cut [19] (fun v19 wx => ∃ (q : Bool) (k : Nat), v19 = .bool q ∧ wx = w.drewN k)
  case first => as_aux_lemma =>
    cases q0 : (r == 65279)
    · skip
      cases q1 : (r == 32)
      · skip
        cases q2 : (r == 44)
        · skip
          cases q3 : (r == 9)
          · skip
            cases q4 : (r == 10)
            · skip
              cases q5 : (r == 13)
              · skip
                go_wp2_with fail
                go_meet
                exact ⟨false, _, rfl, rfl⟩
              · go_wp2_with fail
                go_meet
                exact ⟨true, _, rfl, rfl⟩
            · go_wp2_with fail
              go_meet
              exact ⟨true, _, rfl, rfl⟩
          · go_wp2_with fail
            go_meet
            exact ⟨true, _, rfl, rfl⟩
        · go_wp2_with fail
          go_meet
          exact ⟨true, _, rfl, rfl⟩
      · go_wp2_with fail
        go_meet
        exact ⟨true, _, rfl, rfl⟩
    · go_wp2_with fail
      go_meet
      exact ⟨true, _, rfl, rfl⟩
  case rest =>
    obtain ⟨q, k0, rfl, rfl⟩ := hcut
    cases q
    case true => as_aux_lemma =>
      have ha0 : 0 < a ∨ a = 0 := by omega
      rcases ha0 with ha0 | rfl
      all_goals
        go_wp2_with fail
        all_goals
          go_ret
          first
            | exact ⟨true, _, tc, rfl, (fun _ => ⟨Nat.lt_succ_self _, by omega⟩), by omega, _, _, _, _, _, (HX.out.drew _).set HS.out 1 _ rfl HX.out.seenN (by omega)⟩
            | exact ⟨true, _, tc, rfl, (fun _ => ⟨Nat.lt_succ_self _, by omega⟩), by omega, _, _, _, _, _, ((HX.out.drew _).set HS.out 3 _ rfl HX.out.seenN (by omega)).set HS.out 1 _ rfl HX.out.seenN (by omega)⟩
    case false =>
      cases q35 : (r == 35)
      · go_wp2_with fail
        refine (mark_c _ _).mono ?_
        rintro e w2 ⟨mk, hm0, hm1, rfl, rfl⟩
        by_cases hmk : 0 < mk
        · go_wp2_with fail
          refine (mark_c _ _).mono ?_
          rintro e w3 ⟨mk2, hm20, hm21, rfl, rfl⟩
          have HX2 : Sd (LX W0 B1 b tb N cap ((w.drewN k0).setCell ⟨b, 1, none⟩ (.int .i64 ((a : Int) + 1))) (a + 1) tc tv sure seen line fr) := ⟨(HX.out.drew _).set HS.out 1 _ rfl HX.out.seenN (by omega)⟩
          go_wp2_with (go_at_call 51; refine (HP.out HS.out HX2.out mk2 _ a (by omega) (by omega) (fun h => absurd h (by omega))).mono ?_; rintro e w9 ⟨rfl, hLA⟩; have HLA := Sd.mk hLA; clear hLA)
          go_ret
          exact ⟨true, a + 1, tc + 1, rfl, (fun _ => ⟨by omega, by omega⟩), by omega, HLA.out⟩
        · cases q46 : (r == 46)
          · cases qst : stB r
            · as_aux_lemma =>
                have HXk := Sd.mk (HX.out.drew k0)
                cases q45 : (r == 45)
                · go_wp2_with (first | (go_at_call 25; refine (isStart_x _ _).mono ?_; rintro e w5 ⟨rfl, rfl⟩) | fail)
                  refine (isDigit_c _ _).mono ?_
                  rintro e w6 ⟨bd, rfl, hbd, rfl⟩
                  clear hbd
                  cases bd
                  · cases q34 : (r == 34)
                    · go_wp2_with fail
                      go_ret
                      exact ⟨false, a, tc, rfl, (fun h => by cases h), by omega, _, _, _, _, _, HXk.out⟩
                    · go_wp2_with fail
                      refine (peek_c HS.out HXk.out 1 (by omega)).mono ?_
                      rintro e w2 ⟨r2, n2, rfl, hr02, hr12, hrN2, rfl⟩
                      have HRN2 := Sd.mk hrN2
                      clear hrN2
                      cases q2 : (r2 == 34)
                      · go_wp2_with fail
                        refine (quoted_c HP HS.out (HX.out.drew _) ha (by omega)).mono ?_
                        rintro e w7 ⟨ok, a7, tc7, rfl, g1, g2, g3⟩
                        have G1 := Sd.mk g1
                        have G3 := Sd.mk g3
                        clear g1 g3
                        go_wp2_with fail
                        go_ret
                        exact ⟨ok, a7, tc7, rfl, G1.out, g2, G3.out⟩
                      · go_wp2_with fail
                        refine (peek_c HS.out (HX.out.drew _) 2 (by omega)).mono ?_
                        rintro e w3 ⟨r3, n3, rfl, hr03, hr13, hrN3, rfl⟩
                        have HRN3 := Sd.mk hrN3
                        clear hrN3
                        cases q3 : (r3 == 34)
                        · go_wp2_with fail
                          refine (quoted_c HP HS.out (HX.out.drew _) ha (by omega)).mono ?_
                          rintro e w7 ⟨ok, a7, tc7, rfl, g1, g2, g3⟩
                          have G1 := Sd.mk g1
                          have G3 := Sd.mk g3
                          clear g1 g3
                          go_wp2_with fail
                          go_ret
                          exact ⟨ok, a7, tc7, rfl, G1.out, g2, G3.out⟩
                        · have ha3 : a + 3 ≤ N := by have := eq_of_beq q3; have := HRN3.out (by omega); omega
                          go_wp2_with fail
                          refine (block_c HP HS.out (HX.out.drew _) ha3 (by omega)).mono ?_
                          rintro e w7 ⟨ok, a7, tc7, rfl, g1, g2, g3⟩
                          have G1 := Sd.mk g1
                          have G3 := Sd.mk g3
                          clear g1 g3
                          go_wp2_with fail
                          go_ret
                          exact ⟨ok, a7, tc7, rfl, G1.out, g2, G3.out⟩
                  · go_wp2_with fail
                    refine (number_c HP HS.out (HX.out.drew _) ha (by omega)).mono ?_
                    rintro e w7 ⟨ok, a7, tc7, rfl, g1, g2, g3⟩
                    have G1 := Sd.mk g1
                    have G3 := Sd.mk g3
                    clear g1 g3
                    go_wp2_with fail
                    go_ret
                    exact ⟨ok, a7, tc7, rfl, G1.out, g2, G3.out⟩
                · go_wp2_with (first | (go_at_call 25; refine (isStart_x _ _).mono ?_; rintro e w5 ⟨rfl, rfl⟩) | fail)
                  refine (number_c HP HS.out (HX.out.drew _) ha (by omega)).mono ?_
                  rintro e w7 ⟨ok, a7, tc7, rfl, g1, g2, g3⟩
                  have G1 := Sd.mk g1
                  have G3 := Sd.mk g3
                  clear g1 g3
                  go_wp2_with fail
                  go_ret
                  exact ⟨ok, a7, tc7, rfl, G1.out, g2, G3.out⟩
            · as_aux_lemma =>
                have hr1' : 1 ≤ r := stB_pos qst
                go_wp2_with (first | (go_at_call 25; refine (isStart_x _ _).mono ?_; rintro e w5 ⟨rfl, rfl⟩) | fail)
                clear f fz
                go_loopg [] (N - a) (fun g wr => ∃ a', g + a' = N ∧ a ≤ a' ∧ Sd (LX W0 B1 b tb N cap wr a' tc tv sure seen line fr) ∧ Sd (a' = a → wr.cell? ⟨tb, a, none⟩ = some (.int .i32 r)))
                case atStart => exact ⟨a, by omega, by omega, ⟨HX.out.drew k0⟩, ⟨fun _ => ER.out⟩⟩
                case round =>
                  obtain ⟨a', hg, ha', HX1, HC⟩ := hrel
                  have f := box_cell HX1.out.cells
                  have fz := box_frozen HX1.out.cells
                  by_cases hfirst : a' = a
                  · subst hfirst
                    have er := HC.out rfl
                    go_wp2_with fail
                    refine (peek_x HS.out HX1.out ha er).mono ?_
                    rintro e w6 ⟨rfl, n6, rfl⟩
                    go_wp2_with (first | (go_at_call 25; refine (isStart_x _ _).mono ?_; rintro e w5 ⟨rfl, rfl⟩) | fail)
                    clear er
                    go_roundg (N - (a' + 1))
                    case measure => omega
                    case rel => exact ⟨a' + 1, by omega, by omega, ⟨(HX1.out.drew _).set HS.out 1 _ rfl HX1.out.seenN (by omega)⟩, ⟨fun h => by omega⟩⟩
                  · go_wp2_with fail
                    refine (peek_c HS.out HX1.out 0 (by omega)).mono ?_
                    rintro e w6 ⟨r6, n6, rfl, hr06, hr16, hrN6, rfl⟩
                    have HRN6 := Sd.mk hrN6
                    clear hrN6
                    cases q6 : stB r6
                    · go_wp2_with (first | (go_at_call 25; refine (isStart_x _ _).mono ?_; rintro e w5 ⟨rfl, rfl⟩) | fail)
                      refine (peek_c HS.out (HX1.out.drew _) 0 (by omega)).mono ?_
                      rintro e w8 ⟨r8, n8, rfl, hr08, hr18, hrN8, rfl⟩
                      have HRN8 := Sd.mk hrN8
                      clear hrN8
                      go_wp2_with fail
                      refine (isDigit_c _ _).mono ?_
                      rintro e w9 ⟨bd, rfl, hbd, rfl⟩
                      have HBD := Sd.mk hbd
                      clear hbd
                      cases bd
                      · go_upto_region 22 with (fail)
                        have HZ := Sd.mk (HX1.out.drew (n6 + n8))
                        clear f fz
                        generalize wr.drewN (n6 + n8) = wz at HZ
                        have f := box_cell HZ.out.cells
                        have fz := box_frozen HZ.out.cells
                        obtain ⟨T, hT, hconv⟩ := piece HZ.out.runes (st := a) (en := a') (c := cap - a) (by omega) (by omega)
                        have hcv0 : (convert 99 9 (.slice (some ⟨tb, a, none⟩) (a' - a) (cap - a))).run Tryz.prog wz.drew = .ok (.string T) wz.drew := hconv _ rfl
                        have hcap : a < cap := by omega
                        have hca : ¬ cap = a := by omega
                        have hle : a ≤ a' := by omega
                        have hle2 : a' ≤ cap := by omega
                        clear hconv
                        go_wp2_with fail
                        go_still_tail 13, (by kernel_rfl)
                        change wpList _ _ _ _ _ wz.drew
                        go_wp2_with (go_at_call 51; refine (HP.out HS.out (HZ.out.drew 1) 15 T a (by omega) (by omega) (fun h => absurd h (by omega))).mono ?_; rintro e w9 ⟨rfl, hLA⟩; have HLA := Sd.mk hLA; clear hLA)
                        go_ret
                        exact ⟨true, a', tc + 1, rfl, (fun _ => ⟨by omega, by omega⟩), by omega, HLA.out⟩
                      · have hlt : a' < N := HRN8.out (HBD.out rfl)
                        go_wp2_with fail
                        go_roundg (N - (a' + 1))
                        case measure => omega
                        case rel => exact ⟨a' + 1, by omega, by omega, ⟨(HX1.out.drew _).set HS.out 1 _ rfl HX1.out.seenN (by omega)⟩, ⟨fun h => by omega⟩⟩
                    · have hlt : a' < N := HRN6.out (stB_pos q6)
                      go_wp2_with (first | (go_at_call 25; refine (isStart_x _ _).mono ?_; rintro e w5 ⟨rfl, rfl⟩) | fail)
                      go_roundg (N - (a' + 1))
                      case measure => omega
                      case rel => exact ⟨a' + 1, by omega, by omega, ⟨(HX1.out.drew _).set HS.out 1 _ rfl HX1.out.seenN (by omega)⟩, ⟨fun h => by omega⟩⟩
          · go_wp2_with fail
            refine (peek_c HS.out (HX.out.drew _) 1 (by omega)).mono ?_
            rintro e w2 ⟨r2, n2, rfl, hr02, hr12, hrN2, rfl⟩
            have HRN2 := Sd.mk hrN2
            clear hrN2
            cases q2 : (r2 != 46)
            · go_wp2_with fail
              refine (peek_c HS.out (HX.out.drew _) 2 (by omega)).mono ?_
              rintro e w3 ⟨r3, n3, rfl, hr03, hr13, hrN3, rfl⟩
              have HRN3 := Sd.mk hrN3
              clear hrN3
              cases q3 : (r3 != 46)
              · have ha3 : a + 3 ≤ N := by
                  have h3 : r3 = 46 := by simpa using q3
                  have := HRN3.out (by omega); omega
                have HX2 : Sd (∀ k, LX W0 B1 b tb N cap ((w.drewN k).setCell ⟨b, 1, none⟩ (.int .i64 ((a : Int) + 3))) (a + 3) tc tv sure seen line fr) := ⟨fun k => (HX.out.drew k).set HS.out 1 _ rfl HX.out.seenN (by omega)⟩
                go_wp2_with (go_at_call 51; refine (HP.out HS.out (HX2.out _) 6 _ a (by omega) (by omega) (fun h => absurd h (by omega))).mono ?_; rintro e w9 ⟨rfl, hLA⟩; have HLA := Sd.mk hLA; clear hLA)
                go_ret
                exact ⟨true, a + 3, tc + 1, rfl, (fun _ => ⟨by omega, by omega⟩), by omega, HLA.out⟩
              · go_wp2_with fail
                go_ret
                exact ⟨false, a, tc, rfl, (fun h => by cases h), by omega, _, _, _, _, _, HX.out.drew _⟩
            · go_wp2_with fail
              go_ret
              exact ⟨false, a, tc, rfl, (fun h => by cases h), by omega, _, _, _, _, _, HX.out.drew _⟩
      · as_aux_lemma =>
          have e35 : r = 35 := eq_of_beq q35
          subst e35
          have n10 : ((35 : Int) != 10) = true := rfl
          have n13 : ((35 : Int) != 13) = true := rfl
          have s35 : srcB 35 = true := rfl
          go_wp2_with fail
          clear f fz
          go_loopg [] (N - a) (fun g wr => ∃ a', g + a' = N ∧ a ≤ a' ∧ Sd (LX W0 B1 b tb N cap wr a' tc tv sure seen line fr) ∧ Sd (a' = a → wr.cell? ⟨tb, a, none⟩ = some (.int .i32 35)))
          case atStart => exact ⟨a, by omega, by omega, ⟨HX.out.drew k0⟩, ⟨fun _ => ER.out⟩⟩
          case round =>
            obtain ⟨a', hg, ha', HX1, HC⟩ := hrel
            have f := box_cell HX1.out.cells
            have fz := box_frozen HX1.out.cells
            by_cases hfirst : a' = a
            · subst hfirst
              have er := HC.out rfl
              go_wp2_with fail
              go_quiet ((go_at_call 50; exact Calls.quiet_of_same (isSource_x _ _)))
              clear er
              go_wp2_with fail
              go_roundg (N - (a' + 1))
              case measure => omega
              case rel => exact ⟨a' + 1, by omega, by omega, ⟨(HX1.out.drew _).set HS.out 1 _ rfl HX1.out.seenN (by omega)⟩, ⟨fun h => by omega⟩⟩
            · by_cases hlt : a' < N
              · obtain ⟨r6, er6, hr60, hr61⟩ := rune_at HX1.out.runes hlt
                have hp6 : decide (a' < N) = true := by simpa using hlt
                cases q10 : (r6 != 10)
                · skip
                  go_wp2_with fail
                  go_quiet ((go_at_call 50; exact Calls.quiet_of_same (isSource_x _ _)))
                  go_upto_region 10 with (fail)
                  have HZ := Sd.mk (HX1.out.drew nq)
                  clear f fz
                  generalize wr.drewN nq = wz at HZ
                  have f := box_cell HZ.out.cells
                  have fz := box_frozen HZ.out.cells
                  obtain ⟨T, hT, hconv⟩ := piece HZ.out.runes (st := a) (en := a') (c := cap - a) (by omega) (by omega)
                  have hcv0 : (convert 99 9 (.slice (some ⟨tb, a, none⟩) (a' - a) (cap - a))).run Tryz.prog wz.drew = .ok (.string T) wz.drew := hconv _ rfl
                  have hcap : a < cap := by omega
                  have hca : ¬ cap = a := by omega
                  have hle : a ≤ a' := by omega
                  have hle2 : a' ≤ cap := by omega
                  clear hconv
                  go_wp2_with fail
                  go_still_tail 13, (by kernel_rfl)
                  change wpList _ _ _ _ _ wz.drew
                  go_wp2_with (go_at_call 51; refine (HP.out HS.out (HZ.out.drew 1) 20 T a (by omega) (by omega) (fun h => absurd h (by omega))).mono ?_; rintro e w9 ⟨rfl, hLA⟩; have HLA := Sd.mk hLA; clear hLA)
                  go_ret
                  exact ⟨true, a', tc + 1, rfl, (fun _ => ⟨by omega, by omega⟩), by omega, HLA.out⟩
                · cases q13 : (r6 != 13)
                  · skip
                    go_wp2_with fail
                    go_quiet ((go_at_call 50; exact Calls.quiet_of_same (isSource_x _ _)))
                    go_upto_region 10 with (fail)
                    have HZ := Sd.mk (HX1.out.drew nq)
                    clear f fz
                    generalize wr.drewN nq = wz at HZ
                    have f := box_cell HZ.out.cells
                    have fz := box_frozen HZ.out.cells
                    obtain ⟨T, hT, hconv⟩ := piece HZ.out.runes (st := a) (en := a') (c := cap - a) (by omega) (by omega)
                    have hcv0 : (convert 99 9 (.slice (some ⟨tb, a, none⟩) (a' - a) (cap - a))).run Tryz.prog wz.drew = .ok (.string T) wz.drew := hconv _ rfl
                    have hcap : a < cap := by omega
                    have hca : ¬ cap = a := by omega
                    have hle : a ≤ a' := by omega
                    have hle2 : a' ≤ cap := by omega
                    clear hconv
                    go_wp2_with fail
                    go_still_tail 13, (by kernel_rfl)
                    change wpList _ _ _ _ _ wz.drew
                    go_wp2_with (go_at_call 51; refine (HP.out HS.out (HZ.out.drew 1) 20 T a (by omega) (by omega) (fun h => absurd h (by omega))).mono ?_; rintro e w9 ⟨rfl, hLA⟩; have HLA := Sd.mk hLA; clear hLA)
                    go_ret
                    exact ⟨true, a', tc + 1, rfl, (fun _ => ⟨by omega, by omega⟩), by omega, HLA.out⟩
                  · cases qs : srcB r6
                    · skip
                      go_wp2_with fail
                      go_quiet ((go_at_call 50; exact Calls.quiet_of_same (isSource_x _ _)))
                      go_upto_region 10 with (fail)
                      have HZ := Sd.mk (HX1.out.drew nq)
                      clear f fz
                      generalize wr.drewN nq = wz at HZ
                      have f := box_cell HZ.out.cells
                      have fz := box_frozen HZ.out.cells
                      obtain ⟨T, hT, hconv⟩ := piece HZ.out.runes (st := a) (en := a') (c := cap - a) (by omega) (by omega)
                      have hcv0 : (convert 99 9 (.slice (some ⟨tb, a, none⟩) (a' - a) (cap - a))).run Tryz.prog wz.drew = .ok (.string T) wz.drew := hconv _ rfl
                      have hcap : a < cap := by omega
                      have hca : ¬ cap = a := by omega
                      have hle : a ≤ a' := by omega
                      have hle2 : a' ≤ cap := by omega
                      clear hconv
                      go_wp2_with fail
                      go_still_tail 13, (by kernel_rfl)
                      change wpList _ _ _ _ _ wz.drew
                      go_wp2_with (go_at_call 51; refine (HP.out HS.out (HZ.out.drew 1) 20 T a (by omega) (by omega) (fun h => absurd h (by omega))).mono ?_; rintro e w9 ⟨rfl, hLA⟩; have HLA := Sd.mk hLA; clear hLA)
                      go_ret
                      exact ⟨true, a', tc + 1, rfl, (fun _ => ⟨by omega, by omega⟩), by omega, HLA.out⟩
                    · go_wp2_with fail
                      go_quiet ((go_at_call 50; exact Calls.quiet_of_same (isSource_x _ _)))
                      clear er6
                      go_wp2_with fail
                      go_roundg (N - (a' + 1))
                      case measure => omega
                      case rel => exact ⟨a' + 1, by omega, by omega, ⟨(HX1.out.drew _).set HS.out 1 _ rfl HX1.out.seenN (by omega)⟩, ⟨fun h => by omega⟩⟩
              · have hp6 : decide (a' < N) = false := by simpa using hlt
                go_wp2_with fail
                go_quiet ((go_at_call 50; exact Calls.quiet_of_same (isSource_x _ _)))
                go_upto_region 10 with (fail)
                have HZ := Sd.mk (HX1.out.drew nq)
                clear f fz
                generalize wr.drewN nq = wz at HZ
                have f := box_cell HZ.out.cells
                have fz := box_frozen HZ.out.cells
                obtain ⟨T, hT, hconv⟩ := piece HZ.out.runes (st := a) (en := a') (c := cap - a) (by omega) (by omega)
                have hcv0 : (convert 99 9 (.slice (some ⟨tb, a, none⟩) (a' - a) (cap - a))).run Tryz.prog wz.drew = .ok (.string T) wz.drew := hconv _ rfl
                have hcap : a < cap := by omega
                have hca : ¬ cap = a := by omega
                have hle : a ≤ a' := by omega
                have hle2 : a' ≤ cap := by omega
                clear hconv
                go_wp2_with fail
                go_still_tail 13, (by kernel_rfl)
                change wpList _ _ _ _ _ wz.drew
                go_wp2_with (go_at_call 51; refine (HP.out HS.out (HZ.out.drew 1) 20 T a (by omega) (by omega) (fun h => absurd h (by omega))).mono ?_; rintro e w9 ⟨rfl, hLA⟩; have HLA := Sd.mk hLA; clear hLA)
                go_ret
                exact ⟨true, a', tc + 1, rfl, (fun _ => ⟨by omega, by omega⟩), by omega, HLA.out⟩
end

end Go.Proofs.YtcfgjmdfpnfkjaaGreatDoor
