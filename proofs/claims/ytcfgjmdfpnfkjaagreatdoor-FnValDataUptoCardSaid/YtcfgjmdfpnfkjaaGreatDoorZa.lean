/- Parts of the proof of the statement that this folder hands in: lemmas and contracts (Za). -/
import Derived.Test.YtcfgjmdfpnfkjaaGreatDoorZ
set_option linter.unusedSimpArgs false
set_option linter.unusedVariables false
set_option linter.unusedSimpArgs false
namespace Go.Proofs.YtcfgjmdfpnfkjaaGreatDoor
open Go.RowKit Pf

/-- The table for the shift to the left. -/
structure Cheats (R : Nat × Nat) (S : Nat → ByteArray) (w : World) : Prop where
  v11 : w.cell? ⟨11, 0, none⟩ = some (.slice (some ⟨R.1, R.2, none⟩) 61 61)
  del : ∀ k, k < 61 → w.cell? ⟨R.1, R.2 + k * 2, none⟩ = some (.int .i64 ((cheat k).1 : Nat))
  cut : ∀ k, k < 61 → w.cell? ⟨R.1, R.2 + k * 2 + 1, none⟩ = some (.string (S k))
  num : ∀ k, k < 61 → nums (S k) = (cheat k).2
  len : ∀ k, k < 61 → (S k).size ≤ 100
theorem Cheats.ext {R : Nat × Nat} {S : Nat → ByteArray} {w w' : World} (h : Cheats R S w) (e : Ext w w') : Cheats R S w' :=
  ⟨e.cell h.v11, fun k hk => e.cell (h.del k hk), fun k hk => e.cell (h.cut k hk), h.num, h.len⟩

theorem LInv.lt {E : Nat → Nat} {k dl nd r n : Nat} {D : Nat → Nat} (h : LInv E k dl nd r n D) (hr : r ≤ nd) (hE : ∀ i, i < nd → Dg (E i)) : n < 2 ^ k := by
  have ht := tl_lt (D := E) (nd - r) r fun j _ hj => hE j (by omega)
  rw [h.num0, Nat.div_lt_iff_lt_mul (Nat.pow_pos (by omega)), Nat.mul_comm (2 ^ k)]
  exact Nat.mul_lt_mul_of_pos_right ht (Nat.two_pow_pos k)

set_option maxRecDepth 100000 in
set_option maxHeartbeats 4000000 in
theorem left_c (R : Nat × Nat) (S : Nat → ByteArray) (wz : World) (b k : Nat) (d : Dec) (w : World) (hC : Cheats R S wz) (hb : wz.heap.size ≤ b) (hw : Ext wz w) (h : DecAt w b d.D d.nd d.dp d.neg d.tr) (ok : d.Ok) (h1 : 1 ≤ k) (hk : k ≤ 60) (hp1 : -100000 ≤ d.dp) (hp2 : d.dp ≤ 100000) :
    Calls Tryz.prog 129 #[.pointer (some ⟨b, 0, none⟩), .int .u64 k] w fun en w' => en = .returned (.tuple #[]) ∧ Ext wz w' ∧ DecAt w' b (shl d k).D (shl d k).nd (shl d k).dp (shl d k).neg (shl d k).tr := by
  have HC := hC.ext hw
  have c1 := HC.v11
  have c2 := HC.del k (by omega)
  have c3 := HC.cut k (by omega)
  have c4 := Sd.mk (HC.num k (by omega))
  have c5 := HC.len k (by omega)
  have hm := more_le (D := d.D) (nd := d.nd) h1 hk
  have hc19 := (cheat_ok h1 hk).2.2.2.2.2.2
  have HW := Sd.mk hw
  have HD := Sd.mk h
  have n8 := ok.n8
  have hpos := ok.pos
  have OK := Sd.mk ok
  have hmin : min k 64 = k := by omega
  have hd1 : decide (k < 61) = true := decide_eq_true (by omega)
  have f1 := h.n
  have hn8 : d.nd ≤ 800 := n8
  have hn8i : (d.nd : Int) ≤ 800 := by omega
  have hk61 : (k : Int) < 61 := by omega
  clear hw h ok HC
  go_enter Tryz.func129, Tryz.ntmps129
  go_upto_region 1 with (fail)
  go_cut [30] from 17 to 30 (fun v30 wx => ∃ q : Bool, v30 = .bool q ∧ Sd (plt d.D d.nd (nums (S k)) 0 = q) ∧ Sd (∃ n, wx = w.drewN n))
  case first =>
    have hD := HD.out.dig
    have HP := fun n => Calls.quiet_of (prefix_c d.D d.nd 800 b (S k) (w.drewN n) (by omega) hn8 hD)
    have HPs := Sd.mk HP
    clear HP hD
    go_quiet ((go_at_call 135; exact HPs.out _))
    go_wp2_with fail
    go_meet
    exact ⟨_, rfl, ⟨rfl⟩, ⟨_, rfl⟩⟩
  case rest =>
    obtain ⟨q, rfl, HQ, HN⟩ := hcut
    clear c1 c2 c3 c5 f1 hn8i hd1 hk61
    go_upto_if 30 with (fail)
    go_cut [4] from 31 to 32 (fun v4 wy => v4 = .int .i64 (more d.D d.nd k : Nat) ∧ Sd (∃ n, wy = w.drewN n))
    case first =>
      have hmore : more d.D d.nd k = if q = true then (cheat k).1 - 1 else (cheat k).1 := by rw [← HQ.out]; unfold more; rw [c4.out]
      clear HQ
      cases q
      all_goals
        have HMO := Sd.mk hmore
        clear hmore
        go_wp2_with fail
        go_meet
        exact ⟨by rw [HMO.out]; simp only [if_true, Bool.false_eq_true, if_false]; try exact congrArg (Value.int .i64) (by omega), HN⟩
    case rest =>
      obtain ⟨rfl, ⟨n0, rfl⟩⟩ := hcut
      clear HQ HN hc19 c4
      have HSH : Sd (shl d k = ⟨(lsB (more d.D d.nd k) (lsA k (more d.D d.nd k) d.nd 0 d.D d.tr).1 (lsA k (more d.D d.nd k) d.nd 0 d.D d.tr).2.1 (lsA k (more d.D d.nd k) d.nd 0 d.D d.tr).2.2).1,
        trimN (lsB (more d.D d.nd k) (lsA k (more d.D d.nd k) d.nd 0 d.D d.tr).1 (lsA k (more d.D d.nd k) d.nd 0 d.D d.tr).2.1 (lsA k (more d.D d.nd k) d.nd 0 d.D d.tr).2.2).1 (min (d.nd + more d.D d.nd k) 800), d.dp + more d.D d.nd k, d.neg,
        (lsB (more d.D d.nd k) (lsA k (more d.D d.nd k) d.nd 0 d.D d.tr).1 (lsA k (more d.D d.nd k) d.nd 0 d.D d.tr).2.1 (lsA k (more d.D d.nd k) d.nd 0 d.D d.tr).2.2).2⟩) := ⟨rfl⟩
      have HMN := Sd.mk (more_num OK.out h1 hk)
      have hsp := Sd.mk (shl_ok OK.out h1 hk).1.pos
      generalize more d.D d.nd k = dl at *
      have HW1 : Sd (Ext wz (w.drewN n0)) := ⟨HW.out.drewN _⟩
      have HD1 : Sd (DecAt (w.drewN n0) b d.D d.nd d.dp d.neg d.tr) := HD
      clear HD HW
      generalize w.drewN n0 = w1 at HW1 HD1 ⊢
      have f1 := HD1.out.n
      go_wp2_with fail
      have HI : Sd (LInv d.D k dl d.nd d.nd 0 d.D) := ⟨LInv.init _ _ _ _ hpos⟩
      clear f1
      go_loopg [5, 6, 7, 8, 9] d.nd (fun g v5 v6 v7 v8 v9 wr => ∃ (x y : Int) (n : Nat) (D : Nat → Nat) (t : Bool), v5 = .int .i64 x ∧ v6 = .int .i64 y ∧ v7 = .int .u64 n ∧ x = (g : Int) - 1 ∧ y = (g : Int) + dl ∧ g ≤ d.nd ∧ Sd (Ext wz wr) ∧
        Sd (DecAt wr b D d.nd d.dp d.neg t) ∧ Sd (LInv d.D k dl d.nd g n D) ∧ Sd (lsA k dl g n D t = lsA k dl d.nd 0 d.D d.tr))
      case atStart => exact ⟨_, _, 0, d.D, d.tr, rfl, rfl, rfl, rfl, rfl, Nat.le_refl _, HW1, HD1, HI, ⟨rfl⟩⟩
      case round =>
        clear HW1 HD1 HI
        obtain ⟨x, y, n, D, t, rfl, rfl, rfl, hx, hy, hg, HW, HD, HI, HL⟩ := hrel
        by_cases hg0 : gk = 0
        · subst hg0
          have hx1 : x = -1 := by omega
          subst hx1
          obtain rfl : y = dl := by omega
          clear hx hy
          have HLs : Sd ((n, D, t) = lsA k dl d.nd 0 d.D d.tr) := ⟨HL.out⟩
          have HNUM : Sd (n < 10 ^ dl) := ⟨by have h1 := HI.out.num0; rw [Nat.sub_zero] at h1; rw [h1]; exact HMN.out.1⟩
          have hn60 : n < 2 ^ k := LInv.lt HI.out (by omega) OK.out.dig
          have h60 := pow60 hk
          have hnb : n < 1152921504606846976 := by omega
          clear HL HI HMN hn60 h60
          have hxf : decide ((0 : Int) ≤ -1) = false := rfl
          go_wp2_with fail
          go_loopg [6, 7, 10, 11] dl (fun g v6 v7 v10 v11 wr => ∃ (n2 : Nat) (D2 : Nat → Nat) (t2 : Bool), v6 = .int .i64 g ∧ v7 = .int .u64 n2 ∧ n2 < 1152921504606846976 ∧ g ≤ dl ∧ Sd (n2 < 10 ^ g) ∧ Sd (Ext wz wr) ∧
            Sd (DecAt wr b D2 d.nd d.dp d.neg t2) ∧ Sd (lsB g n2 D2 t2 = lsB dl n D t))
          case atStart => exact ⟨n, D, t, rfl, rfl, hnb, Nat.le_refl _, HNUM, HW, HD, ⟨rfl⟩⟩
          case round =>
            clear HW HD
            obtain ⟨n2, D2, t2, rfl, rfl, hnb2, hgd, HN2, HW, HD, HL2⟩ := hrel
            have fz := HD.out.fz
            by_cases hn0 : n2 = 0
            · subst hn0
              have HS : Sd ((D2, t2) = lsB dl n D t) := ⟨by rw [← HL2.out]; cases gk with
                | zero => rfl
                | succ f => rw [lsB, if_pos rfl]⟩
              have HSH2 : Sd (shl d k = ⟨D2, trimN D2 (min (d.nd + dl) 800), d.dp + dl, d.neg, t2⟩) := ⟨by
                rw [HSH.out, ← HLs.out]; simp only []; rw [← HS.out]⟩
              have hsp2 := hsp.out
              rw [HSH2.out] at hsp2
              have HSP := Sd.mk hsp2
              clear hsp2 HL2 HS HSH HLs
              have f1 := HD.out.n
              have f3 := HD.out.p
              by_cases h8 : 800 ≤ d.nd + dl
              · have h8i : (800 : Int) ≤ (d.nd : Int) + (dl : Int) := by omega
                have hmn : min (d.nd + dl) 800 = 800 := by omega
                rw [hmn] at HSP HSH2
                clear hmn
                go_wp2_with fail
                refine (trim_c wz b D2 800 _ _ _ _ (by omega) hb (((HW.out.setCell hb _).setCell hb _).setCell hb _) (((HD.out.setN (d.nd + dl)).setN 800).setP _) HSP.out).mono ?_
                rintro e w9 ⟨rfl, hw9, hd9⟩
                have HW9 := Sd.mk hw9
                have HD9 := Sd.mk hd9
                clear hw9 hd9
                go_wp2_with fail
                go_end0
                exact ⟨rfl, HW9.out, by rw [HSH2.out]; exact HD9.out⟩
              · have h8i : ¬ (800 : Int) ≤ (d.nd : Int) + (dl : Int) := by omega
                have hmn : min (d.nd + dl) 800 = d.nd + dl := by omega
                rw [hmn] at HSP HSH2
                clear hmn
                go_wp2_with fail
                refine (trim_c wz b D2 (d.nd + dl) _ _ _ _ (by omega) hb ((HW.out.setCell hb _).setCell hb _) ((HD.out.setN (d.nd + dl)).setP _) HSP.out).mono ?_
                rintro e w9 ⟨rfl, hw9, hd9⟩
                have HW9 := Sd.mk hw9
                have HD9 := Sd.mk hd9
                clear hw9 hd9
                go_wp2_with fail
                go_end0
                exact ⟨rfl, HW9.out, by rw [HSH2.out]; exact HD9.out⟩
            · obtain ⟨g, rfl⟩ : ∃ g, gk = g + 1 := ⟨gk - 1, by
                have : gk ≠ 0 := fun e => by subst e; have := HN2.out; simp at this; omega
                omega⟩
              have hnt : decide ((0 : Int) < (n2 : Int)) = true := decide_eq_true (by omega)
              have hg8 : g < 800 := by omega
              have HL3 : Sd (lsB g (n2 / 10) (upd D2 g (n2 % 10 + 48)) t2 = lsB dl n D t) := ⟨by rw [← HL2.out, lsB, if_neg hn0, if_pos hg8]⟩
              have HN3 : Sd (n2 / 10 < 10 ^ g) := ⟨by have := HN2.out; rw [Nat.pow_succ] at this; omega⟩
              have f4 := HD.out.dig g hg8
              have h8t : decide ((g : Int) < 800) = true := decide_eq_true (by omega)
              have h8t2 : decide (g < 800) = true := decide_eq_true (by omega)
              clear HL2 HN2
              have hrem : ((n2 : Int) - 10 * ((n2 : Int) / 10) + 48) = ((n2 % 10 + 48 : Nat) : Int) := by omega
              have HREM := Sd.mk hrem
              clear hrem
              go_wp2_with fail
              go_roundg g
              case measure => omega
              case rel => exact ⟨n2 / 10, upd D2 g (n2 % 10 + 48), t2, rfl, by go_num, by omega, by omega, HN3, ⟨HW.out.setCell hb _⟩, by rw [HREM.out]; exact ⟨HD.out.upd hg8 _⟩, HL3⟩
        · obtain ⟨r, rfl⟩ : ∃ r, gk = r + 1 := ⟨gk - 1, by omega⟩
          obtain rfl : x = (r : Int) := by omega
          obtain ⟨y', hy'⟩ : ∃ y' : Nat, y' = r + dl := ⟨_, rfl⟩
          obtain rfl : y = (y' : Int) + 1 := by omega
          clear hx hy
          have fz := HD.out.fz
          have f2 := HD.out.dig r (by omega)
          have f3 := HD.out.t
          have hdg := OK.out.dig r (by omega)
          rw [← HI.out.old r (by omega)] at hdg
          have hdg1 : 48 ≤ D r := hdg.1
          have hdg2 : D r ≤ 57 := hdg.2
          have hlt := LInv.lt HI.out (by omega) OK.out.dig
          have h60 := pow60 hk
          have hX9 : (D r - 48) * 2 ^ k ≤ 9 * 2 ^ k := Nat.mul_le_mul_right _ (by omega)
          have hXw : IntKind.u64.wrap (((D r : Int) - 48) * 2 ^ k) = (((D r - 48) * 2 ^ k : Nat) : Int) := by
            have e : ((D r : Int) - 48) * 2 ^ k = (((D r - 48) * 2 ^ k : Nat) : Int) := by
              rw [Int.natCast_mul, Int.ofNat_sub hdg1]; push_cast; rfl
            rw [e]; exact u64w (by omega) (by omega)
          have hr800 : decide (r < 800) = true := decide_eq_true (by omega)
          by_cases h8 : y' < 800
          · have HI' := Sd.mk (HI.out.step (by omega))
            have HL' : Sd (lsA k dl r ((n + (D r - 48) * 2 ^ k) / 10) (upd D (r + dl) ((n + (D r - 48) * 2 ^ k) % 10 + 48)) t = lsA k dl d.nd 0 d.D d.tr) := ⟨by rw [← HL.out, lsA, if_pos (by omega)]⟩
            rw [← hy'] at HI' HL'
            have HY' := Sd.mk hy'
            have hy8 : y' ≤ 819 := by omega
            clear HI HL hdg hy'
            generalize (D r - 48) * 2 ^ k = X at *
            have f4 := HD.out.dig y' h8
            have h8t : decide ((y' : Int) < 800) = true := decide_eq_true (by omega)
            have h8t2 : decide (y' < 800) = true := decide_eq_true (by omega)
            have hrem : ((n : Int) + (X : Int) - 10 * (((n : Int) + (X : Int)) / 10) + 48) = (((n + X) % 10 + 48 : Nat) : Int) := by omega
            have HREM := Sd.mk hrem
            clear hrem
            go_wp2_with fail
            go_roundg r
            case measure => omega
            case rel => exact ⟨(r : Int) - 1, y', (n + X) / 10, upd D y' ((n + X) % 10 + 48), t, rfl, rfl, by go_num, rfl, by have := HY'.out; omega, by omega, ⟨HW.out.setCell hb _⟩, by rw [HREM.out]; exact ⟨HD.out.upd h8 _⟩, HI', HL'⟩
          · have HI' := Sd.mk (HI.out.skip (by omega) (by omega))
            have HL' : Sd (lsA k dl r ((n + (D r - 48) * 2 ^ k) / 10) D (t || decide ((n + (D r - 48) * 2 ^ k) % 10 ≠ 0)) = lsA k dl d.nd 0 d.D d.tr) := ⟨by rw [← HL.out, lsA, if_neg (by omega)]⟩
            have HY' := Sd.mk hy'
            have hy8 : y' ≤ 819 := by omega
            clear HI HL hdg hy'
            generalize (D r - 48) * 2 ^ k = X at *
            have h8t : decide ((y' : Int) < 800) = false := decide_eq_false (by omega)
            by_cases hr0 : (n + X) % 10 = 0
            · have hq : ((n : Int) + (X : Int) - 10 * (((n : Int) + (X : Int)) / 10) != 0) = false := by simp; omega
              have HL3 : Sd (lsA k dl r ((n + X) / 10) D t = lsA k dl d.nd 0 d.D d.tr) := ⟨by rw [← HL'.out, decide_eq_false (by omega), Bool.or_false]⟩
              clear HL' hr0
              go_wp2_with fail
              go_roundg r
              case measure => omega
              case rel => exact ⟨(r : Int) - 1, y', (n + X) / 10, D, t, rfl, rfl, by go_num, rfl, by have := HY'.out; omega, by omega, HW, HD, HI', HL3⟩
            · have hq : ((n : Int) + (X : Int) - 10 * (((n : Int) + (X : Int)) / 10) != 0) = true := by simp; omega
              have HL3 : Sd (lsA k dl r ((n + X) / 10) D true = lsA k dl d.nd 0 d.D d.tr) := ⟨by rw [← HL'.out, decide_eq_true hr0, Bool.or_true]⟩
              clear HL' hr0
              go_wp2_with fail
              go_roundg r
              case measure => omega
              case rel => exact ⟨(r : Int) - 1, y', (n + X) / 10, D, true, rfl, rfl, by go_num, rfl, by have := HY'.out; omega, by omega, ⟨HW.out.setCell hb _⟩, ⟨HD.out.setT true⟩, HI', HL3⟩

end Go.Proofs.YtcfgjmdfpnfkjaaGreatDoor
