/- Parts of the proof of the statement that this folder hands in: lemmas and contracts (Z). -/
import Derived.Test.YtcfgjmdfpnfkjaaGreatDoorY
import Derived.Deep.CutBlock
import Derived.Lib.VarintBits
set_option linter.unusedSimpArgs false
set_option linter.unusedVariables false
set_option linter.unusedSimpArgs false
namespace Go.Proofs.YtcfgjmdfpnfkjaaGreatDoor
open Go.RowKit Pf

theorem rsA_stop {D : Nat → Nat} {nd k g r n : Nat} (h : 2 ^ k ≤ n) : rsA D nd k g r n = (r, n) := by
  cases g with
  | zero => rfl
  | succ f => rw [rsA, if_pos h]
theorem rsA_step {D : Nat → Nat} {nd k g r n : Nat} (h : ¬ 2 ^ k ≤ n) : rsA D nd k (g + 1) r n = rsA D nd k g (r + 1) (n * 10 + dg D nd r) := by
  rw [rsA, if_neg h]
theorem div_zero_iff {n k : Nat} (h : (((n : Int) / 2 ^ k) == 0) = true) : ¬ 2 ^ k ≤ n := by
  intro h1
  have h2 : (n : Int) / 2 ^ k = ((n / 2 ^ k : Nat) : Int) := by push_cast; rfl
  rw [h2] at h
  have h3 : 0 < n / 2 ^ k := Nat.div_pos h1 (Nat.two_pow_pos k)
  have h4 : ((n / 2 ^ k : Nat) : Int) = 0 := by simpa using h
  omega
theorem div_pos_iff {n k : Nat} (h : (((n : Int) / 2 ^ k) == 0) = false) : 2 ^ k ≤ n := by
  have h2 : (n : Int) / 2 ^ k = ((n / 2 ^ k : Nat) : Int) := by push_cast; rfl
  rw [h2] at h
  have h4 : ¬ ((n / 2 ^ k : Nat) : Int) = 0 := by simpa using h
  refine Classical.byContradiction fun hn => h4 ?_
  rw [Nat.div_eq_of_lt (by omega)]; rfl
theorem u64w {x : Int} (h : 0 ≤ x) (h2 : x < 18446744073709551616) : IntKind.u64.wrap x = x := by
  unfold IntKind.wrap; simp [IntKind.signed, IntKind.bits]; omega
theorem pow60 {k : Nat} (h : k ≤ 60) : 2 ^ k ≤ 1152921504606846976 := by
  have := Nat.pow_le_pow_right (n := 2) (by omega) h
  omega

theorem mask_of {k : Nat} (h : k ≤ 60) : IntKind.u64.wrap (IntKind.u64.wrap (2 ^ k) - 1) = ((2 ^ k - 1 : Nat) : Int) := by
  have h1 := pow60 h
  have h2 := Nat.two_pow_pos k
  have h3 : ((2 : Int) ^ k) = ((2 ^ k : Nat) : Int) := by push_cast; rfl
  have q1 : IntKind.u64.wrap ((2 ^ k : Nat) : Int) = ((2 ^ k : Nat) : Int) := u64w (by omega) (by omega)
  have q2 : IntKind.u64.wrap (((2 ^ k : Nat) : Int) - 1) = ((2 ^ k : Nat) : Int) - 1 := u64w (by omega) (by omega)
  rw [h3, q1, q2]
  omega
theorem and_mask {k n : Nat} (h : k ≤ 60) (hn : n < 18446744073709551616) : bits BinOp.and IntKind.u64 (n : Int) ((2 ^ k - 1 : Nat) : Int) = ((n % 2 ^ k : Nat) : Int) := by
  have h0 := bits_mask .u64 64 (by decide) wraps_u64 k (by omega) (n : Int) (by omega) (by omega)
  have e : ((2 ^ k - 1 : Nat) : Int) = (2 : Int) ^ k - 1 := by
    have := Nat.two_pow_pos k
    rw [Int.ofNat_sub (by omega)]; push_cast; rfl
  rw [e, h0]; push_cast; rfl

set_option maxRecDepth 100000 in
theorem right_c (wz : World) (b k : Nat) (d : Dec) (w : World) (hb : wz.heap.size ≤ b) (hw : Ext wz w) (h : DecAt w b d.D d.nd d.dp d.neg d.tr) (ok : d.Ok) (h1 : 1 ≤ k) (hk : k ≤ 60) (hp1 : -100000 ≤ d.dp) (hp2 : d.dp ≤ 100000) :
    Calls Tryz.prog 130 #[.pointer (some ⟨b, 0, none⟩), .int .u64 k] w fun en w' => en = .returned (.tuple #[]) ∧ Ext wz w' ∧ DecAt w' b (shr d k).D (shr d k).nd (shr d k).dp (shr d k).neg (shr d k).tr := by
  have HW := Sd.mk hw
  have HD := Sd.mk h
  have n8 := ok.n8
  have hpos := ok.pos
  have OK := Sd.mk ok
  have hmin : min k 64 = k := by omega
  clear hw h ok
  go_enter Tryz.func130, Tryz.ntmps130
  go_upto_block 0 with fail
  go_cut [4, 6] from 7 to 48 (fun v4 v6 wx => ∃ r n : Nat, v4 = .int .i64 r ∧ v6 = .int .u64 n ∧ w = wx ∧ Sd ((r, n) = rsA d.D d.nd k 21 0 0))
  case first =>
    go_wp2_with fail
    go_loopg [4, 6, 7] 21 (fun g v4 v6 v7 wr => ∃ r n : Nat, v4 = .int .i64 r ∧ v6 = .int .u64 n ∧ g + r = 21 ∧ w = wr ∧ Sd (AInv d.D k r n) ∧ Sd (rsA d.D d.nd k g r n = rsA d.D d.nd k 21 0 0))
    case atStart => exact ⟨0, 0, rfl, rfl, by omega, rfl, ⟨AInv.init _ _⟩, ⟨rfl⟩⟩
    case round =>
      obtain ⟨r, n, rfl, rfl, hg, rfl, HA, HL⟩ := hrel
      have hr20 := HA.out.bound hk
      obtain ⟨g, rfl⟩ : ∃ g, gk = g + 1 := ⟨gk - 1, by omega⟩
      have f1 := HD.out.n
      cases hz : (((n : Int) / 2 ^ k) == 0)
      · have HS := Sd.mk ((rsA_stop (D := d.D) (nd := d.nd) (g := g + 1) (r := r) (div_pos_iff hz)).symm.trans HL.out)
        clear HL
        go_wp2_with fail
        go_meet
        exact ⟨r, n, rfl, rfl, rfl, HS⟩
      · have hlt := div_zero_iff hz
        have h60 := pow60 hk
        have HT := Sd.mk ((rsA_step (D := d.D) (nd := d.nd) (g := g) (r := r) hlt).symm.trans HL.out)
        have HA' := Sd.mk (HA.out.step hpos OK.out.dig OK.out.lead (by omega))
        have hn10 : n < 1152921504606846976 := by omega
        clear HL
        by_cases hr : d.nd ≤ r
        · have hn0 : ((n : Int) == 0) = false := by
            have h3 := HA.out.p (by omega)
            have h4 : 0 < 10 ^ (r - 1) := Nat.pow_pos (by omega)
            simp; omega
          have hq : decide ((d.nd : Int) ≤ (r : Int)) = true := decide_eq_true (by omega)
          have HLs := Sd.mk HT.out
          clear hlt h60 HT HA'
          have HA0 := HA
          have HL0 : Sd (rsA d.D d.nd k (g + 1) r n = rsA d.D d.nd k 21 0 0) := ⟨(rsA_step (div_zero_iff hz)).trans HLs.out⟩
          clear HLs
          go_wp2_with fail
          go_loopg [4, 6] (g + 1) (fun g v4 v6 wr => ∃ r' n' : Nat, v4 = .int .i64 r' ∧ v6 = .int .u64 n' ∧ g + r' = 21 ∧ r ≤ r' ∧ w = wr ∧ Sd (AInv d.D k r' n') ∧ Sd (rsA d.D d.nd k g r' n' = rsA d.D d.nd k 21 0 0))
          case atStart => exact ⟨r, n, rfl, rfl, by omega, Nat.le_refl _, rfl, HA0, HL0⟩
          case round =>
            obtain ⟨r', n', rfl, rfl, hg', hrr, rfl, HA', HL'⟩ := hrel
            clear HA HA0 HL0
            have hr20' := HA'.out.bound hk
            obtain ⟨g', rfl⟩ : ∃ g', gk = g' + 1 := ⟨gk - 1, by omega⟩
            cases hz' : (((n' : Int) / 2 ^ k) == 0)
            · have HS := Sd.mk ((rsA_stop (D := d.D) (nd := d.nd) (g := g' + 1) (r := r') (div_pos_iff hz')).symm.trans HL'.out)
              clear HL'
              go_wp2_with fail
              go_meet
              exact ⟨r', n', rfl, rfl, rfl, HS⟩
            · have hlt' := div_zero_iff hz'
              have h60' := pow60 hk
              have HT' := Sd.mk ((rsA_step (D := d.D) (nd := d.nd) (g := g') (r := r') hlt').symm.trans HL'.out)
              have HA2 := Sd.mk (HA'.out.step hpos OK.out.dig OK.out.lead (by omega))
              have hn10' : n' < 1152921504606846976 := by omega
              have hdg3 : dg d.D d.nd r' = 0 := if_neg (by omega)
              clear HL' hlt' h60'
              go_wp2_with fail
              go_roundg g'
              case measure => omega
              case rel => exact ⟨r' + 1, n' * 10 + dg d.D d.nd r', by go_num, by rw [hdg3]; go_num, by omega, by omega, rfl, HA2, HT'⟩
        · have hq : decide ((d.nd : Int) ≤ (r : Int)) = false := decide_eq_false (by omega)
          have f2 := HD.out.dig r (by omega)
          have hdg := OK.out.dig r (by omega)
          have hdg1 : 48 ≤ d.D r := hdg.1
          have hdg2 : d.D r ≤ 57 := hdg.2
          have hdg3 : dg d.D d.nd r = d.D r - 48 := if_pos (by omega)
          have hd1 : decide (r < 800) = true := decide_eq_true (by omega)
          clear hdg h60 hlt
          go_wp2_with fail
          go_roundg g
          case measure => omega
          case rel => exact ⟨r + 1, n * 10 + dg d.D d.nd r, by go_num, by rw [hdg3]; congr 1; omega, by omega, rfl, HA', HT⟩
  case rest =>
    obtain ⟨r0, n0, rfl, rfl, rfl, HR⟩ := hcut
    obtain ⟨hA, hA2⟩ := rsA_ok hk hpos OK.out.dig OK.out.lead 21 0 0 (AInv.init _ _) (by omega)
    have hr0 := hA.bound hk
    have hr1 : 1 ≤ (rsA d.D d.nd k 21 0 0).1 := by
      by_cases e : (rsA d.D d.nd k 21 0 0).1 = 0
      · have := hA.z e
        have := Nat.two_pow_pos k
        omega
      · omega
    have hlt := hA.lt
    rw [← HR.out] at hr0 hr1 hlt
    have h60 := pow60 hk
    have HLT := Sd.mk hlt
    clear hA hA2 hlt
    have f1 := HD.out.p
    have fz := HD.out.fz
    have hsub : wrap64 (d.dp - wrap64 ((r0 : Int) - 1)) = d.dp - ((r0 : Int) - 1) := by unfold wrap64; omega
    have hmask := mask_of hk
    go_wp2_with fail
    have HW1 : Sd (Ext wz (w.setCell ⟨b, 801, none⟩ (.int .i64 (d.dp - ((r0 : Int) - 1))))) := ⟨HW.out.setCell hb _⟩
    have HD1 := Sd.mk (HD.out.setP (d.dp - ((r0 : Int) - 1)))
    have HB1 : Sd (BInv k d.nd r0 0 n0 d.D) := ⟨⟨HLT.out, by omega, fun i hi => absurd hi (by omega), fun i _ hi => OK.out.dig i hi⟩⟩
    clear HD HW f1 fz hsub hmask
    generalize w.setCell ⟨b, 801, none⟩ (.int .i64 (d.dp - ((r0 : Int) - 1))) = w1 at HW1 HD1
    go_loopg [4, 5, 6, 9, 10] (d.nd - r0) (fun g v4 v5 v6 v9 v10 wr => ∃ (r wi n : Nat) (D : Nat → Nat), v4 = .int .i64 r ∧ v5 = .int .i64 wi ∧ v6 = .int .u64 n ∧ r0 ≤ r ∧ g = d.nd - r ∧ wi + r0 = r ∧ (r ≤ d.nd ∨ wi = 0) ∧ Sd (Ext wz wr) ∧ Sd (DecAt wr b D d.nd (d.dp - ((r0 : Int) - 1)) d.neg d.tr) ∧
      Sd (BInv k d.nd r wi n D) ∧ Sd (rsB k g r wi n D = rsB k (d.nd - r0) r0 0 n0 d.D))
    case atStart => exact ⟨r0, 0, n0, d.D, rfl, rfl, rfl, Nat.le_refl _, rfl, by omega, Or.inr rfl, HW1, HD1, HB1, ⟨rfl⟩⟩
    case round =>
      clear HW1 HD1 HB1
      obtain ⟨r, wi, n, D, rfl, rfl, rfl, hr, hg, hwi, hor, HW, HD, HB, HL⟩ := hrel
      have f1 := HD.out.n
      have fz := HD.out.fz
      have hlt := HB.out.lt
      by_cases hrn : r < d.nd
      · obtain ⟨g, rfl⟩ : ∃ g, gk = g + 1 := ⟨gk - 1, by omega⟩
        have f2 := HD.out.dig r (by omega)
        have hdg := HB.out.rest r (Nat.le_refl _) hrn
        have hdg1 : 48 ≤ D r := hdg.1
        have hdg2 : D r ≤ 57 := hdg.2
        have hm := and_mask (n := n) hk (by omega)
        have hd1 : decide (r < 800) = true := decide_eq_true (by omega)
        have hd2 : decide (wi < 800) = true := decide_eq_true (by omega)
        have hq := div_lt_ten hlt
        have hrest := Nat.mod_lt n (Nat.two_pow_pos k)
        have hdq : (n : Int) / 2 ^ k = ((n / 2 ^ k : Nat) : Int) := by push_cast; rfl
        have HB' := Sd.mk (HB.out.step hrn)
        have HL' : Sd (rsB k g (r + 1) (wi + 1) (n % 2 ^ k * 10 + (D r - 48)) (upd D wi (n / 2 ^ k + 48)) = rsB k (d.nd - r0) r0 0 n0 d.D) := ⟨HL.out⟩
        clear HL HB hdg
        generalize n / 2 ^ k = q at *
        generalize n % 2 ^ k = m at *
        have f4 := HD.out.dig wi (by omega)
        go_wp2_with fail
        go_roundg g
        case measure => omega
        case rel => exact ⟨r + 1, wi + 1, m * 10 + (D r - 48), upd D wi (q + 48), by go_num, by go_num, by congr 1; omega, by omega, by omega, by omega, Or.inl (by omega), ⟨HW.out.setCell hb _⟩, ⟨HD.out.upd (by omega) (q + 48)⟩, HB', HL'⟩
      · have hrf : decide ((r : Int) < (d.nd : Int)) = false := decide_eq_false (by omega)
        obtain rfl : gk = 0 := by omega
        have HLs := Sd.mk hlt
        have hput := Sd.mk HB.out.put
        clear fz hlt HB hg
        go_wp2_with fail
        clear f1
        have HC : Sd (CInv k (k + 1) wi n D) := ⟨⟨HLs.out, by omega, fun i hi => hput.out i hi, Or.inr ⟨0, by omega, by omega, by simp⟩⟩⟩
        clear HLs hput
        go_loopg [5, 6, 11] (k + 1) (fun g v5 v6 v11 wr => ∃ (wi2 n2 : Nat) (D2 : Nat → Nat) (t2 : Bool), v5 = .int .i64 wi2 ∧ v6 = .int .u64 n2 ∧ Sd (Ext wz wr) ∧ Sd (DecAt wr b D2 d.nd (d.dp - ((r0 : Int) - 1)) d.neg t2) ∧
          Sd (CInv k g wi2 n2 D2) ∧ Sd (rsC k g wi2 n2 D2 t2 = rsC k (k + 1) wi n D d.tr))
        case atStart => exact ⟨wi, n, D, d.tr, rfl, rfl, HW, HD, HC, ⟨rfl⟩⟩
        case round =>
          clear HW HD HC
          obtain ⟨wi2, n2, D2, t2, rfl, rfl, HW, HD, HC, HL2⟩ := hrel
          have fz := HD.out.fz
          have hlt := HC.out.lt
          have hw8 := HC.out.w8
          by_cases hn : n2 = 0
          · have HS : Sd ((wi2, D2, t2) = rsC k (k + 1) wi n D d.tr) := ⟨by
              rw [← HL2.out, hn]; cases gk with
              | zero => rfl
              | succ f => rw [rsC, if_pos rfl]⟩
            have hnf : decide ((0 : Int) < (n2 : Int)) = false := decide_eq_false (by omega)
            clear HL2 HC
            have f1 := HD.out.n
            have hL0 : rsB k (d.nd - r0) r0 0 n0 d.D = (wi, n, D) := HL.out.symm
            have HSH : Sd (shr d k = ⟨D2, trimN D2 wi2, d.dp - ((r0 : Int) - 1), d.neg, t2⟩) := ⟨by
              unfold shr; rw [← HR.out]; simp only []; rw [hL0]; simp only []; rw [← HS.out]⟩
            have hsp := (shr_ok OK.out h1 hk).1.pos
            rw [HSH.out] at hsp
            have HSP : Sd (0 < trimN D2 wi2) := ⟨hsp⟩
            clear hL0 hsp
            go_wp2_with fail
            refine (trim_c wz b D2 wi2 _ _ _ _ hw8 hb (HW.out.setCell hb _) (HD.out.setN wi2) HSP.out).mono ?_
            rintro e w9 ⟨rfl, hw9, hd9⟩
            have HW9 := Sd.mk hw9
            have HD9 := Sd.mk hd9
            clear hw9 hd9
            go_wp2_with fail
            go_end0
            exact ⟨rfl, HW9.out, by rw [HSH.out]; exact HD9.out⟩
          · obtain ⟨g, rfl⟩ : ∃ g, gk = g + 1 := ⟨gk - 1, by
              have : gk ≠ 0 := fun e => by subst e; exact hn HC.out.zero
              omega⟩
            have hnt : decide ((0 : Int) < (n2 : Int)) = true := decide_eq_true (by omega)
            have hm := and_mask (n := n2) hk (by omega)
            have hq := div_lt_ten hlt
            have hrest := Nat.mod_lt n2 (Nat.two_pow_pos k)
            have hdq : (n2 : Int) / 2 ^ k = ((n2 / 2 ^ k : Nat) : Int) := by push_cast; rfl
            by_cases hw : wi2 < 800
            · have HC' := Sd.mk (HC.out.step hn hw)
              have HL' : Sd (rsC k g (wi2 + 1) (n2 % 2 ^ k * 10) (upd D2 wi2 (n2 / 2 ^ k + 48)) t2 = rsC k (k + 1) wi n D d.tr) := ⟨by rw [← HL2.out, rsC, if_neg hn, if_pos hw]⟩
              have f4 := HD.out.dig wi2 hw
              have hwt : decide ((wi2 : Int) < 800) = true := decide_eq_true (by omega)
              have hwt2 : decide (wi2 < 800) = true := decide_eq_true (by omega)
              clear HC HL2
              generalize n2 / 2 ^ k = q at *
              generalize n2 % 2 ^ k = m at *
              go_wp2_with fail
              go_roundg g
              case measure => omega
              case rel => exact ⟨wi2 + 1, m * 10, upd D2 wi2 (q + 48), t2, by go_num, by go_num, ⟨HW.out.setCell hb _⟩, ⟨HD.out.upd hw (q + 48)⟩, HC', HL'⟩
            · have HC' := Sd.mk (HC.out.skip hn)
              have HL' : Sd (rsC k g wi2 (n2 % 2 ^ k * 10) D2 (t2 || decide (0 < n2 / 2 ^ k)) = rsC k (k + 1) wi n D d.tr) := ⟨by rw [← HL2.out, rsC, if_neg hn, if_neg hw]⟩
              have hwt : decide ((wi2 : Int) < 800) = false := decide_eq_false (by omega)
              clear HC HL2
              generalize n2 / 2 ^ k = q at *
              generalize n2 % 2 ^ k = m at *
              have f5 := HD.out.t
              by_cases hq0 : 0 < q
              · have hqt : decide ((0 : Int) < (q : Int)) = true := decide_eq_true (by omega)
                have HL3 : Sd (rsC k g wi2 (m * 10) D2 true = rsC k (k + 1) wi n D d.tr) := ⟨by rw [← HL'.out, decide_eq_true hq0, Bool.or_true]⟩
                clear HL'
                go_wp2_with fail
                go_roundg g
                case measure => omega
                case rel => exact ⟨wi2, m * 10, D2, true, rfl, by go_num, ⟨HW.out.setCell hb _⟩, ⟨HD.out.setT true⟩, HC', HL3⟩
              · have hqt : decide ((0 : Int) < (q : Int)) = false := decide_eq_false (by omega)
                have HL3 : Sd (rsC k g wi2 (m * 10) D2 t2 = rsC k (k + 1) wi n D d.tr) := ⟨by rw [← HL'.out, decide_eq_false hq0, Bool.or_false]⟩
                clear HL'
                go_wp2_with fail
                go_roundg g
                case measure => omega
                case rel => exact ⟨wi2, m * 10, D2, t2, rfl, by go_num, HW, HD, HC', HL3⟩

end Go.Proofs.YtcfgjmdfpnfkjaaGreatDoor
