/- Parts of the proof of the statement that this folder hands in: lemmas and contracts (Ze). -/
import Derived.Test.YtcfgjmdfpnfkjaaGreatDoorZcMg
set_option linter.unusedSimpArgs false
set_option linter.unusedVariables false
set_option linter.unusedSimpArgs false
namespace Go.Proofs.YtcfgjmdfpnfkjaaGreatDoor
open Go.RowKit Pf

theorem shrs_small {d : Dec} {k : Nat} (h1 : 1 ≤ k) (hk : k ≤ 60) : shrs k d k = shr d k := by
  obtain ⟨f, rfl⟩ : ∃ f, k = f + 1 := ⟨k - 1, by omega⟩
  rw [shrs, if_neg (by omega)]
theorem shrs_dp : ∀ f d k, d.Ok → 1 ≤ k → (shrs f d k).dp ≤ d.dp ∧ d.dp - k - 20 ≤ (shrs f d k).dp
  | 0, d, k, h, _ => by simp only [shrs]; omega
  | f + 1, d, k, h, h1 => by
    unfold shrs
    split
    · have a := shr_ok h (k := 60) (by omega) (by omega)
      have b := shrs_dp f (shr d 60) (k - 60) a.1 (by omega)
      omega
    · have a := shr_ok h (k := k) h1 (by omega)
      omega
theorem fbA_stop {g : Nat} {d : Dec} {e : Int} (h : ¬ 0 < d.dp) : fbA g d e = (d, e) := by
  cases g with
  | zero => rfl
  | succ f => rw [fbA, if_neg h]
theorem fbB_stop {g : Nat} {d : Dec} {e : Int} (h : ¬ (d.dp < 0 ∨ d.dp = 0 ∧ d.D 0 < 53)) : fbB g d e = (d, e) := by
  cases g with
  | zero => rfl
  | succ f => rw [fbB, if_neg h]

def fbD (m e : Int) (neg : Bool) : Int × Bool := (fbO m (if (bits BinOp.and IntKind.u64 m 4503599627370496 == 0) = true then -1023 else e) neg, false)
noncomputable def fbR (r x : Int) (neg : Bool) : Int × Bool :=
  if (r == 9007199254740992) = true then (if 2047 ≤ x + 1 + 1023 then (fbO 0 1024 neg, true) else fbD (r / 2) (x + 1) neg) else fbD r x neg
noncomputable def fbM (d : Dec) (x : Int) : Int × Bool :=
  if 2047 ≤ x + 1023 then (fbO 0 1024 d.neg, true) else fbR (riF (shl d 53)) x (shl d 53).neg
def fbN (d : Dec) (x : Int) : Dec × Int := if x < -1022 then (shrs (-1022 - x).toNat d (-1022 - x).toNat, -1022) else (d, x)
noncomputable def fbX1 (d : Dec) (e : Int) : Int × Bool := fbM (fbN d (e - 1)).1 (fbN d (e - 1)).2
noncomputable def fbX2 (d : Dec) (e : Int) : Int × Bool := fbX1 (fbB (meaB d) d e).1 (fbB (meaB d) d e).2
noncomputable def fbX (d : Dec) : Int × Bool := fbX2 (fbA (meaA d) d 0).1 (fbA (meaA d) d 0).2
theorem ret_fb {X : Int × Bool} {a : Int} {v : Bool} (h : X = (a, v)) : Ending.returned (.tuple #[.int .u64 a, .bool v]) = .returned (.tuple #[.int .u64 X.1, .bool X.2]) := by rw [h]

set_option maxRecDepth 100000 in
set_option maxHeartbeats 16000000 in
theorem fb_mid (L : LayP) (d : Dec) (ok : d.Ok) (h1 : -330 ≤ d.dp) (h2 : d.dp ≤ 310) : FbC L d (fbX d).1 (fbX d).2 := by
  intro wz w b hL hb hE h
  have HE := Sd.mk hE
  have HL := Sd.mk hL
  have HD : Sd (DecIn w b d) := ⟨h⟩
  have OK := Sd.mk ok
  have f1 := h.n
  have f3 := h.p
  have hpos := ok.pos
  have q0 : ((d.nd : Int) == 0) = false := by simp; omega
  have q1 : decide (310 < d.dp) = false := decide_eq_false (by omega)
  have q2 : decide (d.dp < -330) = false := decide_eq_false (by omega)
  have HMA : Sd (meaA d ≤ 3110) := ⟨by unfold meaA; have := ok.lead9; omega⟩
  clear h hE hL ok
  go_enter Tryz.func96, Tryz.ntmps96
  go_wp2_with fail
  refine wp_scope_go rfl rfl ?_
  go_upto_block 0 with (fail)
  clear q0 q1 q2 f1 f3
  go_cut [6, 8] from 35 to 60 (fun v6 v8 wx => ∃ (d1 : Dec) (e1 : Int), v6 = .int .i64 e1 ∧ Sd (fbX d = fbX2 d1 e1) ∧ Sd d1.Ok ∧ -330 ≤ d1.dp ∧ d1.dp ≤ 0 ∧ 0 ≤ e1 ∧ e1 ≤ 90000 ∧ Sd (Ext wz wx) ∧ Sd (DecIn wx b d1))
  case first =>
    go_wp2_with fail
    go_loopg [6, 8] (meaA d) (fun g v6 v8 wr => ∃ (d' : Dec) (e : Int), v6 = .int .i64 e ∧ Sd (fbA g d' e = fbA (meaA d) d 0) ∧ Sd d'.Ok ∧ Sd (meaA d' ≤ g) ∧ -330 ≤ d'.dp ∧ d'.dp ≤ 310 ∧ 0 ≤ e ∧ Sd (e + 27 * g ≤ 27 * meaA d) ∧ Sd (Ext wz wr) ∧ Sd (DecIn wr b d'))
    case atStart => exact ⟨d, 0, rfl, ⟨rfl⟩, OK, ⟨Nat.le_refl _⟩, h1, h2, by omega, ⟨by omega⟩, HE, HD⟩
    case round =>
      clear HE HD OK
      obtain ⟨d', e, rfl, HF, OK, HM, b1, b2, b3, HB, HE, HD⟩ := hrel
      have f3 := HD.out.p
      have hb27 : e ≤ 90000 := by have := HB.out; have := HMA.out; omega
      by_cases hp : 0 < d'.dp
      · have hmea := meaA_lt OK.out hp (pw_bd d'.dp.toNat).1 (by have := (pw_bd d'.dp.toNat).2; omega)
        obtain ⟨g, rfl⟩ : ∃ g, gk = g + 1 := ⟨gk - 1, by have := HM.out; omega⟩
        have HF2 : Sd (fbA g (shr d' (pw d'.dp.toNat)) (e + pw d'.dp.toNat) = fbA (meaA d) d 0) := ⟨by rw [← HF.out, fbA, if_pos hp]⟩
        have HM2 : Sd (meaA (shr d' (pw d'.dp.toNat)) ≤ g) := ⟨by have := HM.out; omega⟩
        have hs := shr_ok OK.out (k := pw d'.dp.toNat) (pw_bd _).1 (by have := (pw_bd d'.dp.toNat).2; omega)
        have OK2 := Sd.mk hs.1
        have hs1 := hs.2.1
        have hs2 := hs.2.2.1
        have hw1 := (pw_bd d'.dp.toNat).1
        have hw2 := (pw_bd d'.dp.toNat).2
        have HB2 : Sd (e + pw d'.dp.toNat + 27 * (g : Int) ≤ 27 * meaA d) := ⟨by have := HB.out; omega⟩
        obtain ⟨p, hpp⟩ : ∃ p : Nat, d'.dp = p := ⟨d'.dp.toNat, by omega⟩
        have hpn : d'.dp.toNat = p := by omega
        rw [hpn] at HF2 HM2 HB2 OK2 hs1 hs2 hw1 hw2
        obtain ⟨q, hq⟩ : ∃ q, q = pw p := ⟨_, rfl⟩
        rw [← hq] at HF2 HM2 HB2 OK2 hs1 hs2 hw1 hw2
        have hpq : decide ((0 : Int) < (p : Int)) = true := decide_eq_true (by omega)
        have hpq2 : decide (0 < p) = true := decide_eq_true (by omega)
        have HPP := Sd.mk hpp
        have hs3 : (shr d' q).dp ≤ 310 := by omega
        have hs4 : -330 ≤ (shr d' q).dp := by omega
        have hb9 : -95000 ≤ d'.dp - (q : Nat) := by omega
        have hb8 : d'.dp ≤ 100000 := by omega
        rw [hpp] at f3
        have v7 := HE.out.cell HL.out.v7
        have hss := Sd.mk (shrs_small (d := d') hw1 (by omega))
        clear hs hmea HF HM HB hpn hpp hs1 hs2 hp b1 b2
        have T := Sd.mk (shiftR_c wz b q d')
        have row := fun (h : p < 9) => HE.out.cell (HL.out.row7 p h)
        rw [← hq] at row
        by_cases h9 : 9 ≤ p
        · obtain rfl : q = 27 := by rw [hq]; exact if_pos h9
          clear row hq
          have h9t : decide ((9 : Int) ≤ (p : Int)) = true := decide_eq_true (by omega)
          have h9u : decide (9 ≤ p) = true := decide_eq_true h9
          go_wp2_with fail
          go_quiet (fail)
          go_wp2_with fail
          refine (T.out _ hb (HE.out.drewN _) (HD.out.drewN _) OK.out (by omega) (by omega) hb9 hb8).mono ?_
          rintro e9 w9 ⟨rfl, hw9, hd9⟩
          rw [hss.out] at hd9
          have HW9 := Sd.mk hw9
          have HD9 : Sd (DecIn w9 b (shr d' 27)) := ⟨hd9⟩
          clear hw9 hd9
          go_wp2_with fail
          go_roundg g
          case measure => omega
          case rel => exact ⟨_, _, rfl, HF2, OK2, HM2, hs4, hs3, by omega, HB2, HW9, HD9⟩
        · have h9t : decide ((9 : Int) ≤ (p : Int)) = false := decide_eq_false (by omega)
          have h9u : decide (9 ≤ p) = false := decide_eq_false h9
          have h9v : decide (p < 9) = true := decide_eq_true (by omega)
          replace row := row (by omega)
          clear hq
          go_wp2_with fail
          go_quiet (fail)
          go_wp2_with fail
          go_quiet (fail)
          go_wp2_with fail
          refine (T.out _ hb (HE.out.drewN _) (HD.out.drewN _) OK.out (by omega) (by omega) hb9 hb8).mono ?_
          rintro e9 w9 ⟨rfl, hw9, hd9⟩
          rw [hss.out] at hd9
          have HW9 := Sd.mk hw9
          have HD9 : Sd (DecIn w9 b (shr d' q)) := ⟨hd9⟩
          clear hw9 hd9
          go_wp2_with fail
          go_roundg g
          case measure => omega
          case rel => exact ⟨_, _, rfl, HF2, OK2, HM2, hs4, hs3, by omega, HB2, HW9, HD9⟩
      · have HF2 : Sd (fbX d = fbX2 d' e) := ⟨by rw [fbX, ← HF.out, fbA_stop hp]⟩
        have hpf : decide (0 < d'.dp) = false := decide_eq_false hp
        clear HF HM HB
        go_wp2_with fail
        go_meet
        exact ⟨d', e, rfl, HF2, OK, b1, by omega, b3, hb27, HE, HD⟩
  case rest =>
    obtain ⟨d1, e1, rfl, HX1, OK1, c1, c2, c3, c4, HE1, HD1⟩ := hcut
    clear HE HD OK
    have HMB : Sd (meaB d1 ≤ 3319) := ⟨by unfold meaB; have := OK1.out.lead9; omega⟩
    go_upto_block 2 with (fail)
    go_cut [6, 9] from 61 to 102 (fun v6 v9 wx => ∃ (d1 : Dec) (e1 : Int), v6 = .int .i64 e1 ∧ Sd (fbX d = fbX1 d1 e1) ∧ Sd d1.Ok ∧ -330 ≤ d1.dp ∧ d1.dp ≤ 30 ∧ -90000 ≤ e1 ∧ e1 ≤ 90000 ∧ Sd (Ext wz wx) ∧ Sd (DecIn wx b d1))
    case first =>
      go_wp2_with fail
      go_loopg [6, 9] (meaB d1) (fun g v6 v9 wr => ∃ (d' : Dec) (e : Int), v6 = .int .i64 e ∧ Sd (fbB g d' e = fbB (meaB d1) d1 e1) ∧ Sd d'.Ok ∧ Sd (meaB d' ≤ g) ∧ -330 ≤ d'.dp ∧ d'.dp ≤ 30 ∧ e ≤ 90000 ∧ Sd (-(27 * meaB d1 : Int) ≤ e - 27 * (g : Int)) ∧ Sd (Ext wz wr) ∧ Sd (DecIn wr b d'))
      case atStart => exact ⟨d1, e1, rfl, ⟨rfl⟩, OK1, ⟨Nat.le_refl _⟩, c1, by omega, c4, ⟨by omega⟩, HE1, HD1⟩
      case round =>
        clear HE1 HD1 OK1
        obtain ⟨d', e, rfl, HF, OK, HM, b1, b2, b3, HB, HE, HD⟩ := hrel
        have hb27 : -90000 ≤ e := by have := HB.out; have := HMB.out; omega
        by_cases hp : d'.dp < 0 ∨ d'.dp = 0 ∧ d'.D 0 < 53
        · have hmea := meaB_lt OK.out (by omega) (pw_bd (-d'.dp).toNat).1 (by have := (pw_bd (-d'.dp).toNat).2; omega)
          obtain ⟨g, rfl⟩ : ∃ g, gk = g + 1 := ⟨gk - 1, by have := HM.out; omega⟩
          have HF2 : Sd (fbB g (shl d' (pw (-d'.dp).toNat)) (e - pw (-d'.dp).toNat) = fbB (meaB d1) d1 e1) := ⟨by rw [← HF.out, fbB, if_pos hp]⟩
          have HM2 : Sd (meaB (shl d' (pw (-d'.dp).toNat)) ≤ g) := ⟨by have := HM.out; omega⟩
          have hs := shl_ok OK.out (k := pw (-d'.dp).toNat) (pw_bd _).1 (by have := (pw_bd (-d'.dp).toNat).2; omega)
          have OK2 := Sd.mk hs.1
          have hs1 := hs.2.1
          have hs2 := hs.2.2.1
          have hw1 := (pw_bd (-d'.dp).toNat).1
          have hw2 := (pw_bd (-d'.dp).toNat).2
          have HB2 : Sd (-(27 * meaB d1 : Int) ≤ e - pw (-d'.dp).toNat - 27 * (g : Int)) := ⟨by have := HB.out; omega⟩
          obtain ⟨p, hpp⟩ : ∃ p : Nat, d'.dp = -(p : Int) := ⟨(-d'.dp).toNat, by omega⟩
          have hpn : (-d'.dp).toNat = p := by omega
          rw [hpn] at HF2 HM2 HB2 OK2 hs1 hs2 hw1 hw2
          obtain ⟨q, hq⟩ : ∃ q, q = pw p := ⟨_, rfl⟩
          rw [← hq] at HF2 HM2 HB2 OK2 hs1 hs2 hw1 hw2
          have HPP := Sd.mk hpp
          have hp330 : p ≤ 330 := by omega
          have hs3 : (shl d' q).dp ≤ 30 := by omega
          have hs4 : -330 ≤ (shl d' q).dp := by omega
          have hb9 : -100000 ≤ d'.dp := by omega
          have hb8 : d'.dp ≤ 100000 := by omega
          have f0 := HD.out.dig 0 (by omega)
          have f3 := HD.out.p
          rw [hpp] at f3
          have v7 := HE.out.cell HL.out.v7
          have T := Sd.mk (shiftL_c L.R L.S wz b q d')
          have row := fun (h : p < 9) => HE.out.cell (HL.out.row7 p h)
          rw [← hq] at row
          have hcond : (decide (-(p : Int) < 0) = true) ∨ (p = 0 ∧ decide ((d'.D 0 : Int) < 53) = true) := by
            rcases hp with h | ⟨h, h'⟩
            · left; exact decide_eq_true (by omega)
            · right; exact ⟨by omega, decide_eq_true (by omega)⟩
          clear hs hmea HF HM HB hpn hpp hs1 hs2 hp b1 b2
          by_cases h9 : 9 ≤ p
          · obtain rfl : q = 27 := by rw [hq]; exact if_pos h9
            clear row hq
            have h9t : decide ((9 : Int) ≤ (p : Int)) = true := decide_eq_true (by omega)
            have h9u : decide (9 ≤ p) = true := decide_eq_true h9
            have h0n : decide (-(p : Int) < 0) = true := decide_eq_true (by omega)
            have h0p : decide (0 < p) = true := decide_eq_true (by omega)
            have h0q : decide ((0 : Int) < (p : Int)) = true := decide_eq_true (by omega)
            clear hcond
            go_wp2_with fail
            go_quiet (fail)
            go_wp2_with fail
            refine (T.out _ HL.out.cheats hb (HE.out.drewN _) (HD.out.drewN _) OK.out (by omega) (by omega) hb9 hb8).mono ?_
            rintro e9 w9 ⟨rfl, hw9, hd9⟩
            have HW9 := Sd.mk hw9
            have HD9 : Sd (DecIn w9 b (shl d' 27)) := ⟨hd9⟩
            clear hw9 hd9
            go_wp2_with fail
            go_roundg g
            case measure => omega
            case rel => exact ⟨_, _, rfl, HF2, OK2, HM2, hs4, hs3, by omega, HB2, HW9, HD9⟩
          · have h9t : decide ((9 : Int) ≤ (p : Int)) = false := decide_eq_false (by omega)
            have h9u : decide (9 ≤ p) = false := decide_eq_false h9
            have h9v : decide (p < 9) = true := decide_eq_true (by omega)
            replace row := row (by omega)
            clear hq
            rcases hcond with h0n | ⟨rfl, h53⟩
            · have h0p : decide (0 < p) = true := decide_eq_true (by have := of_decide_eq_true h0n; omega)
              have h0q : decide ((0 : Int) < (p : Int)) = true := decide_eq_true (by have := of_decide_eq_true h0n; omega)
              go_wp2_with fail
              go_quiet (fail)
              go_wp2_with fail
              go_quiet (fail)
              go_wp2_with fail
              refine (T.out _ HL.out.cheats hb (HE.out.drewN _) (HD.out.drewN _) OK.out (by omega) (by omega) hb9 hb8).mono ?_
              rintro e9 w9 ⟨rfl, hw9, hd9⟩
              have HW9 := Sd.mk hw9
              have HD9 : Sd (DecIn w9 b (shl d' q)) := ⟨hd9⟩
              clear hw9 hd9
              go_wp2_with fail
              go_roundg g
              case measure => omega
              case rel => exact ⟨_, _, rfl, HF2, OK2, HM2, hs4, hs3, by omega, HB2, HW9, HD9⟩
            · rw [Nat.add_zero] at row
              go_wp2_with fail
              go_quiet (fail)
              go_wp2_with fail
              go_quiet (fail)
              go_wp2_with fail
              refine (T.out _ HL.out.cheats hb (HE.out.drewN _) (HD.out.drewN _) OK.out (by omega) (by omega) hb9 hb8).mono ?_
              rintro e9 w9 ⟨rfl, hw9, hd9⟩
              have HW9 := Sd.mk hw9
              have HD9 : Sd (DecIn w9 b (shl d' q)) := ⟨hd9⟩
              clear hw9 hd9
              go_wp2_with fail
              go_roundg g
              case measure => omega
              case rel => exact ⟨_, _, rfl, HF2, OK2, HM2, hs4, hs3, by omega, HB2, HW9, HD9⟩
        · have HF2 : Sd (fbX d = fbX1 d' e) := ⟨by rw [HX1.out, fbX2, ← HF.out, fbB_stop hp]⟩
          have f0 := HD.out.dig 0 (by omega)
          have f3 := HD.out.p
          have hpf : decide (d'.dp < 0) = false := decide_eq_false (by omega)
          clear HF HM HB
          by_cases h0 : d'.dp = 0
          · have h53 : decide ((d'.D 0 : Int) < 53) = false := decide_eq_false (by omega)
            have HZ := Sd.mk hp
            have hz : (d'.dp == 0) = true := by simp [h0]
            clear hp
            go_wp2_with fail
            go_meet
            exact ⟨d', e, rfl, HF2, OK, b1, b2, hb27, b3, HE, HD⟩
          · have hz : (d'.dp == 0) = false := by simp [h0]
            clear hp
            go_wp2_with fail
            go_meet
            exact ⟨d', e, rfl, HF2, OK, b1, b2, hb27, b3, HE, HD⟩
    case rest =>
      obtain ⟨d2, e2, rfl, HX2, OK2, c1, c2, c3, c4, HE2, HD2⟩ := hcut
      clear HE1 HD1 OK1 HX1 HMB
      have HE := HE2
      have m5 := HE.out.cell HL.out.exact.m5
      have e5 := HE.out.cell HL.out.exact.e5
      have b5 := HE.out.cell HL.out.exact.b5
      go_upto_if 111 with (fail)
      go_cut [6, 10] from 105 to 125 (fun v6 v10 wx => ∃ (d1 : Dec) (e1 : Int), v6 = .int .i64 e1 ∧ Sd (fbX d = fbM d1 e1) ∧ Sd d1.Ok ∧ -95000 ≤ d1.dp ∧ d1.dp ≤ 30 ∧ -1022 ≤ e1 ∧ e1 ≤ 90000 ∧ Sd (Ext wz wx) ∧ Sd (DecIn wx b d1))
      case first =>
        by_cases hx : e2 - 1 < -1022
        · obtain ⟨n, hn⟩ : ∃ n : Nat, e2 = -1021 - (n : Int) := ⟨(-1021 - e2).toNat, by omega⟩
          have hn1 : 1 ≤ n := by omega
          have HX3 : Sd (fbX d = fbM (shrs n d2 n) (-1022)) := ⟨by
            rw [HX2.out, fbX1, fbN, if_pos hx]
            have : (-1022 - (e2 - 1)).toNat = n := by omega
            rw [this]⟩
          subst hn
          have hs := shrs_dp n d2 n OK2.out hn1
          have hs1 := hs.1
          have hs2 := hs.2
          have OK3 := Sd.mk (shrs_ok n d2 n OK2.out hn1)
          have hn9 : n ≤ 89000 := by omega
          clear hs HX2
          have hq : decide ((-1021 : Int) - (n : Int) - 1 < -1022) = true := decide_eq_true (by omega)
          go_wp2_with fail
          have harg : (-(-1022 - (-1021 - (n : Int) - 1))) = -(n : Int) := by omega
          rw [harg]
          refine (shiftR_c wz b n d2 _ hb HE2.out HD2.out OK2.out hn1 (by omega) (by omega) (by omega)).mono ?_
          rintro e9 w9 ⟨rfl, hw9, hd9⟩
          have HW9 := Sd.mk hw9
          have HD9 : Sd (DecIn w9 b (shrs n d2 n)) := ⟨hd9⟩
          clear hw9 hd9 harg
          go_wp2_with fail
          go_meet
          exact ⟨shrs n d2 n, -1022, by congr 1; omega, HX3, OK3, by omega, by omega, by omega, by omega, HW9, HD9⟩
        · have HX3 : Sd (fbX d = fbM d2 (e2 - 1)) := ⟨by rw [HX2.out, fbX1, fbN, if_neg hx]⟩
          clear HX2
          go_wp2_with fail
          go_meet
          exact ⟨d2, e2 - 1, rfl, HX3, OK2, by omega, by omega, by omega, by omega, HE2, HD2⟩
      case rest =>
        obtain ⟨d3, x, rfl, HX3, OK3, c1, c2, c3, c4, HE3, HD3⟩ := hcut
        clear HE2 HD2 OK2 HX2 m5 e5 b5 HE
        have HE := HE3
        have m5 := HE.out.cell HL.out.exact.m5
        have e5 := HE.out.cell HL.out.exact.e5
        have b5 := HE.out.cell HL.out.exact.b5
        have f2 := HD3.out.g
        by_cases hov : 2047 ≤ x + 1023
        · have HX : Sd (fbX d = (fbO 0 1024 d3.neg, true)) := ⟨by rw [HX3.out, fbM, if_pos hov]⟩
          go_wp2_with fail
          go_quiet (fail)
          go_wp2_with fail
          go_step3
          refine Or.inr ⟨rfl, ?_⟩
          go_wp2_with fail
          go_quiet (fail)
          go_wp2_with fail
          go_step3
          go_wp2_with fail
          go_quiet (fail)
          cases hg : d3.neg
          · go_wp2_with fail
            rw [Exit.noGoto_ret]
            go_ret2
            exact ⟨(ret_ub (by rw [hg]; rfl)).trans (ret_fb HX.out), HE.out.drewN _⟩
          · go_wp2_with fail
            go_quiet (fail)
            go_wp2_with fail
            rw [Exit.noGoto_ret]
            go_ret2
            exact ⟨(ret_ub (by rw [hg]; rfl)).trans (ret_fb HX.out), (HE.out.drewN _).drewN _⟩
        · have hovd : decide (2047 ≤ x + 1023) = false := decide_eq_false hov
          have hs := shl_ok OK3.out (k := 53) (by omega) (by omega)
          have RI := Sd.mk (ri_c (shl d3 53) hs.1 (by omega) (by omega))
          have HXM : Sd (fbX d = fbR (riF (shl d3 53)) x (shl d3 53).neg) := ⟨by rw [HX3.out, fbM, if_neg hov]⟩
          generalize riF (shl d3 53) = r at RI HXM
          clear hs
          go_wp2_with fail
          go_quiet (fail)
          go_wp2_with fail
          refine (shiftL_c L.R L.S wz b 53 d3 _ HL.out.cheats hb (HE.out.drewN _) (HD3.out.drewN _) OK3.out (by omega) (by omega) (by omega) (by omega)).mono ?_
          rintro e9 w9 ⟨rfl, hw9, hd9⟩
          have HW9 := Sd.mk hw9
          have HD9 : Sd (DecIn w9 b (shl d3 53)) := ⟨hd9⟩
          clear hw9 hd9 m5 e5 b5 f2
          have m5 := HW9.out.cell HL.out.exact.m5
          have e5 := HW9.out.cell HL.out.exact.e5
          have b5 := HW9.out.cell HL.out.exact.b5
          have f2 := HD9.out.g
          go_wp2_with fail
          refine (RI.out _ _ HD9.out).mono ?_
          rintro e8 w8 ⟨rfl, rfl⟩
          cases hr : (r == 9007199254740992)
          · have HXR : Sd (fbX d = fbD r x (shl d3 53).neg) := ⟨by rw [HXM.out, fbR, if_neg (by rw [hr]; simp)]⟩
            cases hd : (bits BinOp.and IntKind.u64 r 4503599627370496 == 0)
            · have HX : Sd (fbX d = (fbO r x (shl d3 53).neg, false)) := ⟨by rw [HXR.out, fbD, if_neg (by rw [hd]; simp)]⟩
              go_wp2_with fail
              go_step3
              refine Or.inl ⟨rfl, ?_⟩
              go_wp2_with fail
              go_quiet (fail)
              cases hg : (shl d3 53).neg
              · go_wp2_with fail
                rw [Exit.noGoto_ret]
                go_ret2
                exact ⟨(ret_ub (by rw [hg]; rfl)).trans (ret_fb HX.out), HW9.out.drewN _⟩
              · go_wp2_with fail
                go_quiet (fail)
                go_wp2_with fail
                rw [Exit.noGoto_ret]
                go_ret2
                exact ⟨(ret_ub (by rw [hg]; rfl)).trans (ret_fb HX.out), (HW9.out.drewN _).drewN _⟩
            · have HX : Sd (fbX d = (fbO r (-1023) (shl d3 53).neg, false)) := ⟨by rw [HXR.out, fbD, if_pos hd]⟩
              go_wp2_with fail
              go_step3
              refine Or.inl ⟨rfl, ?_⟩
              go_wp2_with fail
              go_quiet (fail)
              cases hg : (shl d3 53).neg
              · go_wp2_with fail
                rw [Exit.noGoto_ret]
                go_ret2
                exact ⟨(ret_ub (by rw [hg]; rfl)).trans (ret_fb HX.out), HW9.out.drewN _⟩
              · go_wp2_with fail
                go_quiet (fail)
                go_wp2_with fail
                rw [Exit.noGoto_ret]
                go_ret2
                exact ⟨(ret_ub (by rw [hg]; rfl)).trans (ret_fb HX.out), (HW9.out.drewN _).drewN _⟩
          · have hr9 := eq_of_beq hr
            subst hr9
            by_cases hov2 : 2047 ≤ x + 1 + 1023
            · have HX : Sd (fbX d = (fbO 0 1024 (shl d3 53).neg, true)) := ⟨by rw [HXM.out, fbR, if_pos hr, if_pos hov2]⟩
              clear hr
              go_wp2_with fail
              go_quiet (fail)
              go_wp2_with fail
              go_step3
              refine Or.inr ⟨rfl, ?_⟩
              go_wp2_with fail
              go_quiet (fail)
              go_wp2_with fail
              go_step3
              go_wp2_with fail
              go_quiet (fail)
              cases hg : (shl d3 53).neg
              · go_wp2_with fail
                rw [Exit.noGoto_ret]
                go_ret2
                exact ⟨(ret_ub (by rw [hg]; rfl)).trans (ret_fb HX.out), HW9.out.drewN _⟩
              · go_wp2_with fail
                go_quiet (fail)
                go_wp2_with fail
                rw [Exit.noGoto_ret]
                go_ret2
                exact ⟨(ret_ub (by rw [hg]; rfl)).trans (ret_fb HX.out), (HW9.out.drewN _).drewN _⟩
            · have HXR : Sd (fbX d = fbD 4503599627370496 (x + 1) (shl d3 53).neg) := ⟨by rw [HXM.out, fbR, if_pos hr, if_neg hov2]; rfl⟩
              have hov3 : decide (2047 ≤ x + 1 + 1023) = false := decide_eq_false hov2
              clear hr
              cases hd : (bits BinOp.and IntKind.u64 4503599627370496 4503599627370496 == 0)
              · have HX : Sd (fbX d = (fbO 4503599627370496 (x + 1) (shl d3 53).neg, false)) := ⟨by rw [HXR.out, fbD, if_neg (by rw [hd]; simp)]⟩
                go_wp2_with fail
                go_quiet (fail)
                go_wp2_with fail
                go_step3
                refine Or.inl ⟨rfl, ?_⟩
                go_wp2_with fail
                go_quiet (fail)
                cases hg : (shl d3 53).neg
                · go_wp2_with fail
                  rw [Exit.noGoto_ret]
                  go_ret2
                  exact ⟨(ret_ub (by rw [hg]; rfl)).trans (ret_fb HX.out), HW9.out.drewN _⟩
                · go_wp2_with fail
                  go_quiet (fail)
                  go_wp2_with fail
                  rw [Exit.noGoto_ret]
                  go_ret2
                  exact ⟨(ret_ub (by rw [hg]; rfl)).trans (ret_fb HX.out), (HW9.out.drewN _).drewN _⟩
              · have HX : Sd (fbX d = (fbO 4503599627370496 (-1023) (shl d3 53).neg, false)) := ⟨by rw [HXR.out, fbD, if_pos hd]⟩
                go_wp2_with fail
                go_quiet (fail)
                go_wp2_with fail
                go_step3
                refine Or.inl ⟨rfl, ?_⟩
                go_wp2_with fail
                go_quiet (fail)
                cases hg : (shl d3 53).neg
                · go_wp2_with fail
                  rw [Exit.noGoto_ret]
                  go_ret2
                  exact ⟨(ret_ub (by rw [hg]; rfl)).trans (ret_fb HX.out), HW9.out.drewN _⟩
                · go_wp2_with fail
                  go_quiet (fail)
                  go_wp2_with fail
                  rw [Exit.noGoto_ret]
                  go_ret2
                  exact ⟨(ret_ub (by rw [hg]; rfl)).trans (ret_fb HX.out), (HW9.out.drewN _).drewN _⟩

/-- THE WORD that the decimal comes to. -/
theorem fb_c (L : LayP) (d : Dec) (h : d.Ok ∨ d.nd = 0) : ∃ x ov, FbC L d x ov := by
  rcases h with ok | h0
  · by_cases h1 : d.dp < -330
    · exact ⟨_, _, fb_low L d ok.pos h1⟩
    · by_cases h2 : 310 < d.dp
      · exact ⟨_, _, fb_high L d ok.pos h2⟩
      · exact ⟨_, _, fb_mid L d ok (by omega) (by omega)⟩
  · exact ⟨_, _, fb_zero L d h0⟩

end Go.Proofs.YtcfgjmdfpnfkjaaGreatDoor
