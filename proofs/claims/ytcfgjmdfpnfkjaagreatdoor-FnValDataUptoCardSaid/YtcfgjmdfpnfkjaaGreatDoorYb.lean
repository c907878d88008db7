/- Parts of the proof of the statement that this folder hands in: lemmas and contracts (Yb). -/
import Derived.Test.YtcfgjmdfpnfkjaaGreatDoorYa
import Derived.WalkMore
import Derived.Deep.CutBlock
set_option linter.unusedSimpArgs false
set_option linter.unusedVariables false
set_option linter.unusedSimpArgs false
namespace Go.Proofs.YtcfgjmdfpnfkjaaGreatDoor
open Go.RowKit

/-- A byte of a text; behind its end: 0. -/
def atB (s : ByteArray) (i : Nat) : Nat := if h : i < s.size then s[i].toNat else 0
theorem atB_in {s : ByteArray} {i : Nat} (h : i < s.size) : atB s i = s[i].toNat := dif_pos h
def dgN (c : Nat) : Bool := decide (48 ≤ c) && decide (c ≤ 57)

/-- What the reader of digits knows. -/
structure RF where
  m : Int
  dot : Bool
  dig : Bool
  tr : Bool
  nd : Nat
  nm : Nat
  dp : Int
/-- A digit read. -/
def digF (c : Nat) (x : RF) : RF :=
  if c = 48 ∧ x.nd = 0 then { x with dig := true, dp := x.dp - 1 }
  else if x.nm < 19 then { x with dig := true, nd := x.nd + 1, m := IntKind.u64.wrap (IntKind.u64.wrap (x.m * 10) + ((c : Int) - 48)), nm := x.nm + 1 }
  else { x with dig := true, nd := x.nd + 1, tr := x.tr || decide (c ≠ 48) }
/-- The digits and the point. -/
def loopF (s : ByteArray) : Nat → Nat → RF → Nat × RF
  | 0, i, x => (i, x)
  | f + 1, i, x =>
    if s.size ≤ i then (i, x)
    else if atB s i = 46 then (if x.dot then (i, x) else loopF s f (i + 1) { x with dot := true, dp := x.nd })
    else if dgN (atB s i) then loopF s f (i + 1) (digF (atB s i) x)
    else (i, x)
/-- The exponent's digits. -/
def expF (s : ByteArray) : Nat → Nat → Nat → Nat × Nat
  | 0, i, e => (i, e)
  | f + 1, i, e =>
    if s.size ≤ i then (i, e)
    else if dgN (atB s i) then expF s f (i + 1) (if e < 10000 then e * 10 + (atB s i - 48) else e)
    else (i, e)
/-- What readFloat hands back. -/
structure RdR where
  m : Int
  e : Int
  ng : Bool
  tr : Bool
  i : Nat
  ok : Bool
def rdEnd (x : RF) (ng : Bool) (i : Nat) (dp : Int) : RdR := ⟨x.m, if (x.m != 0) = true then dp - x.nm else 0, ng, x.tr, i, true⟩
def rdNo (x : RF) (ng : Bool) (i : Nat) : RdR := ⟨x.m, 0, ng, x.tr, i, false⟩
def rdE3 (s : ByteArray) (x : RF) (ng : Bool) (dp sg : Int) (i : Nat) : RdR := rdEnd x ng (expF s s.size i 0).1 (dp + (expF s s.size i 0).2 * sg)
def rdE2 (s : ByteArray) (x : RF) (ng : Bool) (dp sg : Int) (i : Nat) : RdR := if s.size ≤ i ∨ ¬ dgN (atB s i) = true then rdNo x ng i else rdE3 s x ng dp sg i
def rdE1 (s : ByteArray) (x : RF) (ng : Bool) (dp : Int) (i : Nat) : RdR :=
  if s.size ≤ i then rdNo x ng i
  else if atB s i = 43 then rdE2 s x ng dp 1 (i + 1)
  else if atB s i = 45 then rdE2 s x ng dp (-1) (i + 1)
  else rdE2 s x ng dp 1 i
def rd3 (s : ByteArray) (x : RF) (ng : Bool) (i : Nat) (dp : Int) : RdR := if i < s.size ∧ (atB s i = 69 ∨ atB s i = 101) then rdE1 s x ng dp (i + 1) else rdEnd x ng i dp
def rd2 (s : ByteArray) (x : RF) (ng : Bool) (i : Nat) : RdR := if x.dig then rd3 s x ng i (if x.dot then x.dp else x.nd) else rdNo x ng i
def rf0 : RF := ⟨0, false, false, false, 0, 0, 0⟩
def rd1 (s : ByteArray) (ng : Bool) (i : Nat) : RdR := rd2 s (loopF s s.size i rf0).2 ng (loopF s s.size i rf0).1
def rd (s : ByteArray) : RdR :=
  if s.size = 0 then rdNo rf0 false 0
  else if atB s 0 = 43 then rd1 s false 1
  else if atB s 0 = 45 then rd1 s true 1
  else rd1 s false 0
def rdV (r : RdR) : Ending := .returned (.tuple #[.int .u64 r.m, .int .i64 r.e, .bool r.ng, .bool r.tr, .bool false, .int .i64 r.i, .bool r.ok])

theorem lo_nm {c : Nat} (h : nmC c = true) : loF c = if c = 69 then 101 else (c : Int) := by
  have hc := nmC_cases h
  have h2 : (48 = c ∨ 49 = c ∨ 50 = c ∨ 51 = c ∨ 52 = c ∨ 53 = c ∨ 54 = c ∨ 55 = c ∨ 56 = c ∨ 57 = c) ∨ c = 43 ∨ c = 45 ∨ c = 46 ∨ c = 69 ∨ c = 101 := by omega
  rcases h2 with (rfl | rfl | rfl | rfl | rfl | rfl | rfl | rfl | rfl | rfl) | rfl | rfl | rfl | rfl | rfl <;> decide

theorem loopF_end {s : ByteArray} {g i : Nat} {x : RF} (h : s.size ≤ i) : loopF s g i x = (i, x) := by
  cases g with
  | zero => rfl
  | succ f => rw [loopF, if_pos h]
theorem loopF_stop {s : ByteArray} {g i : Nat} {x : RF} (h : i < s.size) (hc : s[i].toNat ≠ 46) (hd : dgN s[i].toNat = false) : loopF s g i x = (i, x) := by
  cases g with
  | zero => rfl
  | succ f => rw [loopF, if_neg (by omega), atB_in h, if_neg hc, hd]; rfl
theorem loopF_dot2 {s : ByteArray} {g i : Nat} {x : RF} (h : i < s.size) (hc : s[i].toNat = 46) (hx : x.dot = true) : loopF s g i x = (i, x) := by
  cases g with
  | zero => rfl
  | succ f => rw [loopF, if_neg (by omega), atB_in h, if_pos hc, if_pos hx]
theorem loopF_dot {s : ByteArray} {g i : Nat} {x : RF} (h : i < s.size) (hc : s[i].toNat = 46) (hx : x.dot = false) : loopF s (g + 1) i x = loopF s g (i + 1) { x with dot := true, dp := x.nd } := by
  rw [loopF, if_neg (by omega), atB_in h, if_pos hc, if_neg (by rw [hx]; simp)]
theorem loopF_dig {s : ByteArray} {g i : Nat} {x : RF} (h : i < s.size) (hc : s[i].toNat ≠ 46) (hd : dgN s[i].toNat = true) : loopF s (g + 1) i x = loopF s g (i + 1) (digF s[i].toNat x) := by
  rw [loopF, if_neg (by omega), atB_in h, if_neg hc, if_pos hd]
theorem u64_rng (x : Int) : 0 ≤ IntKind.u64.wrap x ∧ IntKind.u64.wrap x ≤ 18446744073709551615 := by
  unfold IntKind.wrap; simp [IntKind.signed, IntKind.bits]; omega
theorem expF_end {s : ByteArray} {g i e : Nat} (h : s.size ≤ i) : expF s g i e = (i, e) := by
  cases g with
  | zero => rfl
  | succ f => rw [expF, if_pos h]
theorem expF_stop {s : ByteArray} {g i e : Nat} (h : i < s.size) (hd : dgN s[i].toNat = false) : expF s g i e = (i, e) := by
  cases g with
  | zero => rfl
  | succ f => rw [expF, if_neg (by omega), atB_in h, hd]; rfl
theorem expF_dig {s : ByteArray} {g i e : Nat} (h : i < s.size) (hd : dgN s[i].toNat = true) : expF s (g + 1) i e = expF s g (i + 1) (if e < 10000 then e * 10 + (s[i].toNat - 48) else e) := by
  rw [expF, if_neg (by omega), atB_in h, if_pos hd]

set_option maxRecDepth 100000 in
set_option maxHeartbeats 8000000 in
/-- THE READER of a number. -/
theorem read_c (s : ByteArray) (hn : NumS s) (w : World) (hs : s.size ≤ 1048576) : Calls Tryz.prog 89 #[.string s] w fun en w' => en = rdV (rd s) ∧ w' = w := by
  have HN := Sd.mk hn
  clear hn
  by_cases h0 : 0 < s.size
  · have hp : decide (0 < s.size) = true := decide_eq_true h0
    have hse : ¬ s = ByteArray.empty := fun e => by subst e; exact absurd h0 (by decide)
    have hRD : Sd (rd s = if s[0].toNat = 43 then rd1 s false 1 else if s[0].toNat = 45 then rd1 s true 1 else rd1 s false 0) := ⟨by unfold rd; rw [if_neg (by omega), atB_in h0]⟩
    go_enter Tryz.func89, Tryz.ntmps89
    go_wp2_with fail
    go_step3
    go_upto_block 0 with (fail)
    go_cut [4, 7] from 28 to 35 (fun v4 v7 wx => ∃ (ng : Bool) (i0 : Nat), v4 = .bool ng ∧ v7 = .int .i64 i0 ∧ i0 ≤ 1 ∧ i0 ≤ s.size ∧ w = wx ∧ Sd (rd s = rd1 s ng i0))
    case first =>
      cases q1 : ((s[0].toNat : Int) == 43)
      · cases q2 : ((s[0].toNat : Int) == 45)
        · have hr : Sd (rd s = rd1 s false 0) := ⟨by rw [hRD.out, if_neg (by simp at q1; omega), if_neg (by simp at q2; omega)]⟩
          clear hRD
          go_wp2_with fail
          go_meet
          exact ⟨false, 0, rfl, rfl, by omega, by omega, rfl, hr⟩
        · have hr : Sd (rd s = rd1 s true 1) := ⟨by rw [hRD.out, if_neg (by simp at q1; omega), if_pos (by simp at q2; omega)]⟩
          clear hRD
          go_wp2_with fail
          go_meet
          exact ⟨true, 1, rfl, rfl, by omega, by omega, rfl, hr⟩
      · have hr : Sd (rd s = rd1 s false 1) := ⟨by rw [hRD.out, if_pos (by simp at q1; omega)]⟩
        clear hRD
        go_wp2_with fail
        go_meet
        exact ⟨false, 1, rfl, rfl, by omega, by omega, rfl, hr⟩
    case rest =>
      obtain ⟨ng, i0, rfl, rfl, hi1, his, rfl, HRD⟩ := hcut
      clear hRD
      go_upto_region 12 with (fail)
      go_cut [54] from 36 to 53 (fun v54 wx => v54 = .bool false ∧ w = wx)
      case first =>
        by_cases h2 : i0 + 2 < s.size
        · have d1 : decide (i0 + 2 < s.size) = true := decide_eq_true h2
          have d1i : decide ((i0 : Int) + 2 < (s.size : Int)) = true := decide_eq_true (by omega)
          have d2 : decide (i0 < s.size) = true := decide_eq_true (by omega)
          have d3 : decide (i0 + 1 < s.size) = true := decide_eq_true (by omega)
          have hn1 : i0 + 1 < s.size := by omega
          have hn0 : i0 < s.size := by omega
          have hlo : (loF (s[i0 + 1].toNat : Int) == 120) = false := by
            have h := HN.out.at hn1
            have hc := nmC_cases h
            rw [lo_nm h]
            split
            · rfl
            · simp; omega
          cases q48 : ((s[i0].toNat : Int) == 48)
          · go_wp2_with fail
            go_meet
            exact ⟨rfl, rfl⟩
          · go_wp2_with (first | (go_at_call 57; refine (lower_c _ _).mono ?_; rintro e w' ⟨rfl, rfl⟩) | fail)
            go_meet
            exact ⟨rfl, rfl⟩
        · have d1 : decide (i0 + 2 < s.size) = false := decide_eq_false h2
          have d1i : decide ((i0 : Int) + 2 < (s.size : Int)) = false := decide_eq_false (by omega)
          go_wp2_with fail
          go_meet
          exact ⟨rfl, rfl⟩
      case rest =>
        obtain ⟨rfl, rfl⟩ := hcut
        go_wp2_with fail
        go_step3
        go_upto_block 1 with (fail)
        go_cut [2, 5, 7, 9, 13, 14, 15, 16, 17, 18] from 57 to 138 (fun v2 v5 v7 v9 v13 v14 v15 v16 v17 v18 wx => ∃ (i : Nat) (m : Int) (dot dig tr : Bool) (nd nm : Nat) (dp : Int), v2 = .int .u64 m ∧ v5 = .bool tr ∧ v7 = .int .i64 i ∧ v13 = .bool dot ∧ v14 = .bool dig ∧ v15 = .int .i64 nd ∧ v16 = .int .i64 nm ∧ v17 = .int .i64 dp ∧ i ≤ s.size ∧ v9 = .bool false ∧ -(i : Int) ≤ dp ∧ dp ≤ i ∧ nd ≤ i ∧ nm ≤ 19 ∧ Sd (0 ≤ m ∧ m ≤ 18446744073709551615) ∧ w = wx ∧ Sd (rd s = rd2 s ⟨m, dot, dig, tr, nd, nm, dp⟩ ng i))
        case first =>
          go_wp2_with fail
          go_loopg [2, 5, 7, 9, 13, 14, 15, 16, 17, 18] s.size (fun g v2 v5 v7 v9 v13 v14 v15 v16 v17 v18 wx => ∃ (i : Nat) (m : Int) (dot dig tr : Bool) (nd nm : Nat) (dp : Int), v2 = .int .u64 m ∧ v5 = .bool tr ∧ v7 = .int .i64 i ∧ v13 = .bool dot ∧ v14 = .bool dig ∧ v15 = .int .i64 nd ∧ v16 = .int .i64 nm ∧ v17 = .int .i64 dp ∧ i ≤ s.size ∧ v9 = .bool false ∧ -(i : Int) ≤ dp ∧ dp ≤ i ∧ nd ≤ i ∧ nm ≤ 19 ∧ Sd (0 ≤ m ∧ m ≤ 18446744073709551615) ∧ w = wx ∧ s.size ≤ g + i ∧ Sd (loopF s g i ⟨m, dot, dig, tr, nd, nm, dp⟩ = loopF s s.size i0 rf0))
          case atStart => exact ⟨i0, 0, false, false, false, 0, 0, 0, by first | rfl | go_num, by first | rfl | go_num, by first | rfl | go_num, by first | rfl | go_num, by first | rfl | go_num, by first | rfl | go_num, by first | rfl | go_num, by first | rfl | go_num, by omega, rfl, by omega, by omega, by omega, by omega, ⟨by omega⟩, rfl, by omega, ⟨rfl⟩⟩
          case round =>
            obtain ⟨i, m, dot, dig, tr, nd, nm, dp, rfl, rfl, rfl, rfl, rfl, rfl, rfl, rfl, b1, rfl, b2, b3, b4, b5, HM, rfl, hg, HL⟩ := hrel
            by_cases hi : i < s.size
            · obtain ⟨g, rfl⟩ : ∃ g, gk = g + 1 := ⟨gk - 1, by omega⟩
              have d1 : decide (i < s.size) = true := decide_eq_true hi
              have d1i : decide ((i : Int) < (s.size : Int)) = true := decide_eq_true (by omega)
              have hcc := nmC_cases (HN.out.at hi)
              have q95 : ((s[i].toNat : Int) == 95) = false := by simp; omega
              by_cases h46 : s[i].toNat = 46
              · have q46 : ((s[i].toNat : Int) == 46) = true := by simp; omega
                have H46 := Sd.mk h46
                clear h46 hcc
                cases dot
                · have HL2 := Sd.mk ((loopF_dot (g := g) (x := ⟨m, false, dig, tr, nd, nm, dp⟩) hi H46.out rfl).symm.trans HL.out)
                  clear HL
                  go_wp2_with fail
                  go_roundg g
                  case measure => omega
                  case rel => exact ⟨i + 1, m, true, dig, tr, nd, nm, nd, by first | rfl | go_num, by first | rfl | go_num, by first | rfl | go_num, by first | rfl | go_num, by first | rfl | go_num, by first | rfl | go_num, by first | rfl | go_num, by first | rfl | go_num, by omega, rfl, by omega, by omega, by omega, by omega, HM, rfl, by omega, HL2⟩
                · have HL2 : Sd (rd s = rd2 s ⟨m, true, dig, tr, nd, nm, dp⟩ ng i) := ⟨by rw [HRD.out, rd1, ← HL.out, loopF_dot2 hi H46.out rfl]⟩
                  clear HL
                  go_wp2_with fail
                  go_meet
                  exact ⟨i, m, true, dig, tr, nd, nm, dp, by first | rfl | go_num, by first | rfl | go_num, by first | rfl | go_num, by first | rfl | go_num, by first | rfl | go_num, by first | rfl | go_num, by first | rfl | go_num, by first | rfl | go_num, by omega, rfl, by omega, by omega, by omega, by omega, HM, rfl, HL2⟩
              · have q46 : ((s[i].toNat : Int) == 46) = false := by simp; omega
                by_cases hdg : 48 ≤ s[i].toNat ∧ s[i].toNat ≤ 57
                · have hdn : dgN s[i].toNat = true := by simp [dgN]; exact hdg
                  have k1 : (48 : Int) ≤ (s[i].toNat : Int) := by omega
                  have k2 : (s[i].toNat : Int) ≤ 57 := by omega
                  have k1d : decide ((48 : Int) ≤ (s[i].toNat : Int)) = true := decide_eq_true k1
                  have k2d : decide ((s[i].toNat : Int) ≤ 57) = true := decide_eq_true k2
                  have HLd := (loopF_dig (g := g) (x := ⟨m, dot, dig, tr, nd, nm, dp⟩) hi h46 hdn).symm.trans HL.out
                  clear HL hdn h46 hcc hdg
                  by_cases hz : s[i].toNat = 48 ∧ nd = 0
                  · obtain ⟨hz1, rfl⟩ := hz
                    have q48 : ((s[i].toNat : Int) == 48) = true := by simp; omega
                    have HL2 : Sd (loopF s g (i + 1) ⟨m, dot, true, tr, 0, nm, dp - 1⟩ = loopF s s.size i0 rf0) := ⟨by rw [← HLd]; unfold digF; rw [if_pos ⟨hz1, rfl⟩]⟩
                    clear HLd hz1
                    go_wp2_with fail
                    go_roundg g
                    case measure => omega
                    case rel => exact ⟨i + 1, m, dot, true, tr, 0, nm, dp - 1, by first | rfl | go_num, by first | rfl | go_num, by first | rfl | go_num, by first | rfl | go_num, by first | rfl | go_num, by first | rfl | go_num, by first | rfl | go_num, by first | rfl | go_num, by omega, rfl, by omega, by omega, by omega, by omega, HM, rfl, by omega, HL2⟩
                  · have HZ := Sd.mk hz
                    by_cases hnm : nm < 19
                    · have HL2 : Sd (loopF s g (i + 1) ⟨IntKind.u64.wrap (IntKind.u64.wrap (m * 10) + ((s[i].toNat : Int) - 48)), dot, true, tr, nd + 1, nm + 1, dp⟩ = loopF s s.size i0 rf0) := ⟨by rw [← HLd]; unfold digF; rw [if_neg hz, if_pos hnm]⟩
                      have dnm : decide ((nm : Int) < 19) = true := decide_eq_true (by omega)
                      have HM2 := Sd.mk (u64_rng (IntKind.u64.wrap (m * 10) + ((s[i].toNat : Int) - 48)))
                      clear HLd hz
                      cases q48 : ((s[i].toNat : Int) == 48)
                      · go_wp2_with fail
                        go_roundg g
                        case measure => omega
                        case rel => exact ⟨i + 1, _, dot, true, tr, nd + 1, nm + 1, dp, by first | rfl | go_num, by first | rfl | go_num, by first | rfl | go_num, by first | rfl | go_num, by first | rfl | go_num, by first | rfl | go_num, by first | rfl | go_num, by first | rfl | go_num, by omega, rfl, by omega, by omega, by omega, by omega, HM2, rfl, by omega, HL2⟩
                      · have hnd : ((nd : Int) == 0) = false := by have := HZ.out; simp at q48; simp; omega
                        go_wp2_with fail
                        go_roundg g
                        case measure => omega
                        case rel => exact ⟨i + 1, _, dot, true, tr, nd + 1, nm + 1, dp, by first | rfl | go_num, by first | rfl | go_num, by first | rfl | go_num, by first | rfl | go_num, by first | rfl | go_num, by first | rfl | go_num, by first | rfl | go_num, by first | rfl | go_num, by omega, rfl, by omega, by omega, by omega, by omega, HM2, rfl, by omega, HL2⟩
                    · have dnm : decide ((nm : Int) < 19) = false := decide_eq_false (by omega)
                      cases q48 : ((s[i].toNat : Int) == 48)
                      · have HL2 : Sd (loopF s g (i + 1) ⟨m, dot, true, true, nd + 1, nm, dp⟩ = loopF s s.size i0 rf0) := ⟨by
                          rw [← HLd]; unfold digF; rw [if_neg hz, if_neg hnm]
                          have : decide (s[i].toNat ≠ 48) = true := by simp at q48; simp; omega
                          simp only [this, Bool.or_true]⟩
                        have q48n : ((s[i].toNat : Int) != 48) = true := by simp at q48; simp; omega
                        clear HLd hz
                        go_wp2_with fail
                        go_roundg g
                        case measure => omega
                        case rel => exact ⟨i + 1, m, dot, true, true, nd + 1, nm, dp, by first | rfl | go_num, by first | rfl | go_num, by first | rfl | go_num, by first | rfl | go_num, by first | rfl | go_num, by first | rfl | go_num, by first | rfl | go_num, by first | rfl | go_num, by omega, rfl, by omega, by omega, by omega, by omega, HM, rfl, by omega, HL2⟩
                      · have HL2 : Sd (loopF s g (i + 1) ⟨m, dot, true, tr, nd + 1, nm, dp⟩ = loopF s s.size i0 rf0) := ⟨by
                          rw [← HLd]; unfold digF; rw [if_neg hz, if_neg hnm]
                          have : decide (s[i].toNat ≠ 48) = false := by simp at q48; simp; omega
                          simp only [this, Bool.or_false]⟩
                        have q48n : ((s[i].toNat : Int) != 48) = false := by simp at q48; simp; omega
                        have hnd : ((nd : Int) == 0) = false := by have := HZ.out; simp at q48; simp; omega
                        clear HLd hz
                        go_wp2_with fail
                        go_roundg g
                        case measure => omega
                        case rel => exact ⟨i + 1, m, dot, true, tr, nd + 1, nm, dp, by first | rfl | go_num, by first | rfl | go_num, by first | rfl | go_num, by first | rfl | go_num, by first | rfl | go_num, by first | rfl | go_num, by first | rfl | go_num, by first | rfl | go_num, by omega, rfl, by omega, by omega, by omega, by omega, HM, rfl, by omega, HL2⟩
                · have hdn : dgN s[i].toNat = false := by simp [dgN]; omega
                  have HL2 : Sd (rd s = rd2 s ⟨m, dot, dig, tr, nd, nm, dp⟩ ng i) := ⟨by rw [HRD.out, rd1, ← HL.out, loopF_stop hi h46 hdn]⟩
                  clear HL hdn h46 hcc
                  by_cases k48 : 48 ≤ s[i].toNat
                  · have k1 : (48 : Int) ≤ (s[i].toNat : Int) := by omega
                    have k2 : ¬ (s[i].toNat : Int) ≤ 57 := by omega
                    have k1d : decide ((48 : Int) ≤ (s[i].toNat : Int)) = true := decide_eq_true k1
                    have k2d : decide ((s[i].toNat : Int) ≤ 57) = false := decide_eq_false k2
                    clear hdg
                    go_wp2_with fail
                    go_meet
                    exact ⟨i, m, dot, dig, tr, nd, nm, dp, by first | rfl | go_num, by first | rfl | go_num, by first | rfl | go_num, by first | rfl | go_num, by first | rfl | go_num, by first | rfl | go_num, by first | rfl | go_num, by first | rfl | go_num, by omega, rfl, by omega, by omega, by omega, by omega, HM, rfl, HL2⟩
                  · have k1 : ¬ (48 : Int) ≤ (s[i].toNat : Int) := by omega
                    have k1d : decide ((48 : Int) ≤ (s[i].toNat : Int)) = false := decide_eq_false k1
                    clear hdg
                    go_wp2_with fail
                    go_meet
                    exact ⟨i, m, dot, dig, tr, nd, nm, dp, by first | rfl | go_num, by first | rfl | go_num, by first | rfl | go_num, by first | rfl | go_num, by first | rfl | go_num, by first | rfl | go_num, by first | rfl | go_num, by first | rfl | go_num, by omega, rfl, by omega, by omega, by omega, by omega, HM, rfl, HL2⟩
            · have d1 : decide (i < s.size) = false := decide_eq_false hi
              have d1i : decide ((i : Int) < (s.size : Int)) = false := decide_eq_false (by omega)
              have HL2 : Sd (rd s = rd2 s ⟨m, dot, dig, tr, nd, nm, dp⟩ ng i) := ⟨by rw [HRD.out, rd1, ← HL.out, loopF_end (by omega)]⟩
              clear HL
              go_wp2_with fail
              go_meet
              exact ⟨i, m, dot, dig, tr, nd, nm, dp, by first | rfl | go_num, by first | rfl | go_num, by first | rfl | go_num, by first | rfl | go_num, by first | rfl | go_num, by first | rfl | go_num, by first | rfl | go_num, by first | rfl | go_num, by omega, rfl, by omega, by omega, by omega, by omega, HM, rfl, HL2⟩
        case rest =>
          obtain ⟨i, m, dot, dig, tr, nd, nm, dp, rfl, rfl, rfl, rfl, rfl, rfl, rfl, rfl, b1, rfl, b2, b3, b4, b5, HM, rfl, HX⟩ := hcut
          cases dig
          · have HX2 : Sd (rd s = rdNo ⟨m, dot, false, tr, nd, nm, dp⟩ ng i) := ⟨HX.out⟩
            clear HX
            go_wp2_with fail
            try rw [Exit.noGoto_ret]
            exact bodyPost_ret (v := .tuple #[.int .u64 m, .int .i64 0, .bool ng, .bool tr, .bool false, .int .i64 (i : Nat), .bool false]) (by simp [results, Tryz.results89, go_sem]) rfl ⟨by rw [HX2.out]; rfl, rfl⟩
          · have HX2 : Sd (rd s = rd3 s ⟨m, dot, true, tr, nd, nm, dp⟩ ng i (if dot then dp else nd)) := ⟨HX.out⟩
            clear HX
            go_upto_if 142 with (fail)
            go_cut [17] from 143 to 143 (fun v17 wx => ∃ dp' : Int, v17 = .int .i64 dp' ∧ -(i : Int) ≤ dp' ∧ dp' ≤ i ∧ w = wx ∧ Sd (rd s = rd3 s ⟨m, dot, true, tr, nd, nm, dp⟩ ng i dp'))
            case first =>
              cases dot
              · go_wp2_with fail
                go_meet
                exact ⟨nd, rfl, by omega, by omega, rfl, HX2⟩
              · go_wp2_with fail
                go_meet
                exact ⟨dp, rfl, by omega, by omega, rfl, HX2⟩
            case rest =>
              obtain ⟨dp', rfl, b6, b7, rfl, HX3⟩ := hcut
              clear HX2
              go_upto_region 57 with (fail)
              go_cut [161] from 150 to 160 (fun v161 wx => ∃ q : Bool, v161 = .bool q ∧ w = wx ∧ Sd (q = true → i < s.size ∧ rd s = rdE1 s ⟨m, dot, true, tr, nd, nm, dp⟩ ng dp' (i + 1)) ∧ Sd (q = false → rd s = rdEnd ⟨m, dot, true, tr, nd, nm, dp⟩ ng i dp'))
              case first =>
                by_cases hi : i < s.size
                · have d1 : decide (i < s.size) = true := decide_eq_true hi
                  have d1i : decide ((i : Int) < (s.size : Int)) = true := decide_eq_true (by omega)
                  have hat := atB_in hi
                  have hlo := lo_nm (HN.out.at hi)
                  by_cases hE : s[i].toNat = 69 ∨ s[i].toNat = 101
                  · have HX4 : Sd (rd s = rdE1 s ⟨m, dot, true, tr, nd, nm, dp⟩ ng dp' (i + 1)) := ⟨by rw [HX3.out, rd3, if_pos ⟨hi, by rw [hat]; exact hE⟩]⟩
                    have q1 : (loF (s[i].toNat : Int) == 101) = true := by
                      rw [hlo]; split
                      · rfl
                      · simp; omega
                    clear hat hlo hE HX3
                    go_wp2_with (first | (go_at_call 57; refine (lower_c _ _).mono ?_; rintro e w' ⟨rfl, rfl⟩) | fail)
                    go_meet
                    exact ⟨true, rfl, rfl, ⟨fun _ => ⟨hi, HX4.out⟩⟩, ⟨fun h => by cases h⟩⟩
                  · have HX4 : Sd (rd s = rdEnd ⟨m, dot, true, tr, nd, nm, dp⟩ ng i dp') := ⟨by rw [HX3.out, rd3, if_neg (by rw [hat]; exact fun h => hE h.2)]⟩
                    have q1 : (loF (s[i].toNat : Int) == 101) = false := by
                      rw [hlo]; split
                      · exact absurd (Or.inl ‹_›) hE
                      · simp; omega
                    clear hat hlo hE HX3
                    go_wp2_with (first | (go_at_call 57; refine (lower_c _ _).mono ?_; rintro e w' ⟨rfl, rfl⟩) | fail)
                    go_meet
                    exact ⟨false, rfl, rfl, ⟨fun h => by cases h⟩, ⟨fun _ => HX4.out⟩⟩
                · have d1 : decide (i < s.size) = false := decide_eq_false hi
                  have d1i : decide ((i : Int) < (s.size : Int)) = false := decide_eq_false (by omega)
                  have HX4 : Sd (rd s = rdEnd ⟨m, dot, true, tr, nd, nm, dp⟩ ng i dp') := ⟨by rw [HX3.out, rd3, if_neg (fun h => hi h.1)]⟩
                  clear HX3
                  go_wp2_with fail
                  go_meet
                  exact ⟨false, rfl, rfl, ⟨fun h => by cases h⟩, ⟨fun _ => HX4.out⟩⟩
              case rest =>
                obtain ⟨q, rfl, rfl, HQ1, HQ2⟩ := hcut
                clear HX3
                go_upto_if 161 with (fail)
                go_cut [7, 9, 17, 19, 20] from 162 to 239 (fun v7 v9 v17 v19 v20 wx => ∃ (i' : Nat) (dq : Int), v7 = .int .i64 i' ∧ v17 = .int .i64 dq ∧ i' ≤ s.size ∧ v9 = .bool false ∧ -2000000 ≤ dq ∧ dq ≤ 2000000 ∧ w = wx ∧ Sd (rd s = rdEnd ⟨m, dot, true, tr, nd, nm, dp⟩ ng i' dq))
                case first =>
                  cases q
                  · have HX4 := Sd.mk (HQ2.out rfl)
                    clear HQ1 HQ2
                    go_wp2_with fail
                    go_meet
                    exact ⟨i, dp', rfl, rfl, b1, rfl, by omega, by omega, rfl, HX4⟩
                  · obtain ⟨hi, hx4⟩ := HQ1.out rfl
                    have HX4 := Sd.mk hx4
                    clear HQ1 HQ2 hx4
                    by_cases hj : i + 1 < s.size
                    · have d2 : decide (i + 1 < s.size) = true := decide_eq_true hj
                      have d2i : decide ((s.size : Int) ≤ (i : Int) + 1) = false := decide_eq_false (by omega)
                      have d3i : decide (s.size ≤ i + 1) = false := decide_eq_false (by omega)
                      have HX5 : Sd (rd s = if s[i + 1].toNat = 43 then rdE2 s ⟨m, dot, true, tr, nd, nm, dp⟩ ng dp' 1 (i + 1 + 1) else if s[i + 1].toNat = 45 then rdE2 s ⟨m, dot, true, tr, nd, nm, dp⟩ ng dp' (-1) (i + 1 + 1) else rdE2 s ⟨m, dot, true, tr, nd, nm, dp⟩ ng dp' 1 (i + 1)) := ⟨by
                        rw [HX4.out, rdE1, if_neg (by omega), atB_in hj]⟩
                      clear HX4
                      go_upto_block 4 with (fail)
                      go_cut [7, 19] from 171 to 178 (fun v7 v19 wx => ∃ (j : Nat) (sg : Int), v7 = .int .i64 j ∧ v19 = .int .i64 sg ∧ (sg = 1 ∨ sg = -1) ∧ j ≤ s.size ∧ w = wx ∧ Sd (rd s = rdE2 s ⟨m, dot, true, tr, nd, nm, dp⟩ ng dp' sg j))
                      case first =>
                        cases q43 : ((s[i + 1].toNat : Int) == 43)
                        · cases q45 : ((s[i + 1].toNat : Int) == 45)
                          · have hr : Sd (rd s = rdE2 s ⟨m, dot, true, tr, nd, nm, dp⟩ ng dp' 1 (i + 1)) := ⟨by rw [HX5.out, if_neg (by simp at q43; omega), if_neg (by simp at q45; omega)]⟩
                            clear HX5
                            go_wp2_with fail
                            go_meet
                            exact ⟨i + 1, 1, by go_num, rfl, Or.inl rfl, by omega, rfl, hr⟩
                          · have hr : Sd (rd s = rdE2 s ⟨m, dot, true, tr, nd, nm, dp⟩ ng dp' (-1) (i + 1 + 1)) := ⟨by rw [HX5.out, if_neg (by simp at q43; omega), if_pos (by simp at q45; omega)]⟩
                            clear HX5
                            go_wp2_with fail
                            go_meet
                            exact ⟨i + 1 + 1, -1, by go_num, rfl, Or.inr rfl, by omega, rfl, hr⟩
                        · have hr : Sd (rd s = rdE2 s ⟨m, dot, true, tr, nd, nm, dp⟩ ng dp' 1 (i + 1 + 1)) := ⟨by rw [HX5.out, if_pos (by simp at q43; omega)]⟩
                          clear HX5
                          go_wp2_with fail
                          go_meet
                          exact ⟨i + 1 + 1, 1, by go_num, rfl, Or.inl rfl, by omega, rfl, hr⟩
                      case rest =>
                        obtain ⟨j, sg, rfl, rfl, hsg, hjs, rfl, HX6⟩ := hcut
                        have HSG := Sd.mk hsg
                        clear HX5 hsg d2 d2i d3i hj hi
                        by_cases hjl : j < s.size
                        · have d1 : decide (j < s.size) = true := decide_eq_true hjl
                          have d2i : decide ((s.size : Int) ≤ (j : Int)) = false := decide_eq_false (by omega)
                          have d3i : decide (s.size ≤ j) = false := decide_eq_false (by omega)
                          by_cases hdg : 48 ≤ s[j].toNat ∧ s[j].toNat ≤ 57
                          · have hdn : dgN s[j].toNat = true := by simp [dgN]; exact hdg
                            have HX7 : Sd (rd s = rdE3 s ⟨m, dot, true, tr, nd, nm, dp⟩ ng dp' sg j) := ⟨by rw [HX6.out, rdE2, if_neg (by rw [atB_in hjl, hdn]; simp; omega)]⟩
                            have k1 : ¬ ((s[j].toNat : Int) < 48) := by omega
                            have k2 : ¬ (57 < (s[j].toNat : Int)) := by omega
                            have k1d : decide ((s[j].toNat : Int) < 48) = false := decide_eq_false k1
                            have k2d : decide (57 < (s[j].toNat : Int)) = false := decide_eq_false k2
                            clear HX6 hdn hdg
                            go_upto_block 5 with (fail)
                            clear d1 d2i d3i k1 k2 k1d k2d
                            go_cut [7, 9, 20] from 195 to 232 (fun v7 v9 v20 wx => ∃ (i' e : Nat), v7 = .int .i64 i' ∧ v20 = .int .i64 e ∧ i' ≤ s.size ∧ v9 = .bool false ∧ e ≤ 100000 ∧ w = wx ∧ Sd (rd s = rdEnd ⟨m, dot, true, tr, nd, nm, dp⟩ ng i' (dp' + e * sg)))
                            case first =>
                              go_wp2_with fail
                              go_loopg [7, 9, 20] s.size (fun g v7 v9 v20 wx => ∃ (i' e : Nat), v7 = .int .i64 i' ∧ v20 = .int .i64 e ∧ i' ≤ s.size ∧ v9 = .bool false ∧ e ≤ 100000 ∧ w = wx ∧ s.size ≤ g + i' ∧ Sd (expF s g i' e = expF s s.size j 0))
                              case atStart => exact ⟨j, 0, rfl, rfl, by omega, rfl, by omega, rfl, by omega, ⟨rfl⟩⟩
                              case round =>
                                obtain ⟨i', e, rfl, rfl, c1, rfl, c2, rfl, hg, HL⟩ := hrel
                                by_cases hi : i' < s.size
                                · obtain ⟨g, rfl⟩ : ∃ g, gk = g + 1 := ⟨gk - 1, by omega⟩
                                  have d1 : decide (i' < s.size) = true := decide_eq_true hi
                                  have d1i : decide ((i' : Int) < (s.size : Int)) = true := decide_eq_true (by omega)
                                  have hcc := nmC_cases (HN.out.at hi)
                                  have q95 : ((s[i'].toNat : Int) == 95) = false := by simp; omega
                                  by_cases hdg : 48 ≤ s[i'].toNat ∧ s[i'].toNat ≤ 57
                                  · have hdn : dgN s[i'].toNat = true := by simp [dgN]; exact hdg
                                    have HL2 := (expF_dig (g := g) (e := e) hi hdn).symm.trans HL.out
                                    have k1 : (48 : Int) ≤ (s[i'].toNat : Int) := by omega
                                    have k2 : (s[i'].toNat : Int) ≤ 57 := by omega
                                    have k1d : decide ((48 : Int) ≤ (s[i'].toNat : Int)) = true := decide_eq_true k1
                                    have k2d : decide ((s[i'].toNat : Int) ≤ 57) = true := decide_eq_true k2
                                    have k3 : 48 ≤ s[i'].toNat := hdg.1
                                    clear HL hdn hcc hdg
                                    by_cases he : e < 10000
                                    · rw [if_pos he] at HL2
                                      have HL3 := Sd.mk HL2
                                      have hed : decide ((e : Int) < 10000) = true := decide_eq_true (by omega)
                                      have heq : (e : Int) * 10 + (s[i'].toNat : Int) - 48 = ((e * 10 + (s[i'].toNat - 48) : Nat) : Int) := by omega
                                      have HEQ := Sd.mk heq
                                      clear HL2 heq
                                      go_wp2_with fail
                                      go_roundg g
                                      case measure => omega
                                      case rel => exact ⟨i' + 1, e * 10 + (s[i'].toNat - 48), by go_num, by rw [← HEQ.out], by omega, rfl, by omega, rfl, by omega, HL3⟩
                                    · rw [if_neg he] at HL2
                                      have HL3 := Sd.mk HL2
                                      have hed : decide ((e : Int) < 10000) = false := decide_eq_false (by omega)
                                      clear HL2
                                      go_wp2_with fail
                                      go_roundg g
                                      case measure => omega
                                      case rel => exact ⟨i' + 1, e, by go_num, rfl, by omega, rfl, by omega, rfl, by omega, HL3⟩
                                  · have hdn : dgN s[i'].toNat = false := by simp [dgN]; omega
                                    have HL2 : Sd (rd s = rdEnd ⟨m, dot, true, tr, nd, nm, dp⟩ ng i' (dp' + e * sg)) := ⟨by rw [HX7.out, rdE3, ← HL.out, expF_stop hi hdn]⟩
                                    clear HL hdn hcc
                                    by_cases k48 : 48 ≤ s[i'].toNat
                                    · have k1 : (48 : Int) ≤ (s[i'].toNat : Int) := by omega
                                      have k2 : ¬ (s[i'].toNat : Int) ≤ 57 := by omega
                                      have k1d : decide ((48 : Int) ≤ (s[i'].toNat : Int)) = true := decide_eq_true k1
                                      have k2d : decide ((s[i'].toNat : Int) ≤ 57) = false := decide_eq_false k2
                                      clear hdg
                                      go_wp2_with fail
                                      go_meet
                                      exact ⟨i', e, rfl, rfl, by omega, rfl, c2, rfl, HL2⟩
                                    · have k1 : ¬ (48 : Int) ≤ (s[i'].toNat : Int) := by omega
                                      have k1d : decide ((48 : Int) ≤ (s[i'].toNat : Int)) = false := decide_eq_false k1
                                      clear hdg
                                      go_wp2_with fail
                                      go_meet
                                      exact ⟨i', e, rfl, rfl, by omega, rfl, c2, rfl, HL2⟩
                                · have d1 : decide (i' < s.size) = false := decide_eq_false hi
                                  have d1i : decide ((i' : Int) < (s.size : Int)) = false := decide_eq_false (by omega)
                                  have HL2 : Sd (rd s = rdEnd ⟨m, dot, true, tr, nd, nm, dp⟩ ng i' (dp' + e * sg)) := ⟨by rw [HX7.out, rdE3, ← HL.out, expF_end (by omega)]⟩
                                  clear HL
                                  go_wp2_with fail
                                  go_meet
                                  exact ⟨i', e, rfl, rfl, by omega, rfl, c2, rfl, HL2⟩
                            case rest =>
                              obtain ⟨i', e, rfl, rfl, c1, rfl, c2, rfl, HX8⟩ := hcut
                              clear HX7
                              rcases HSG.out with rfl | rfl
                              · go_wp2_with fail
                                go_meet
                                exact ⟨i', _, rfl, rfl, c1, rfl, by omega, by omega, rfl, by simpa using HX8⟩
                              · go_wp2_with fail
                                go_meet
                                exact ⟨i', _, rfl, rfl, c1, rfl, by omega, by omega, rfl, by simpa using HX8⟩
                          · have hdn : dgN s[j].toNat = false := by simp [dgN]; omega
                            have HX7 : Sd (rd s = rdNo ⟨m, dot, true, tr, nd, nm, dp⟩ ng j) := ⟨by rw [HX6.out, rdE2, if_pos (Or.inr (by rw [atB_in hjl, hdn]; simp))]⟩
                            clear HX6 hdn
                            by_cases k48 : 48 ≤ s[j].toNat
                            · have k1 : ¬ ((s[j].toNat : Int) < 48) := by omega
                              have k2 : 57 < (s[j].toNat : Int) := by omega
                              have k1d : decide ((s[j].toNat : Int) < 48) = false := decide_eq_false k1
                              have k2d : decide (57 < (s[j].toNat : Int)) = true := decide_eq_true k2
                              clear hdg
                              go_wp2_with fail
                              try rw [Exit.noGoto_ret]
                              exact bodyPost_ret (v := .tuple #[.int .u64 m, .int .i64 0, .bool ng, .bool tr, .bool false, .int .i64 (j : Nat), .bool false]) (by simp [results, Tryz.results89, go_sem]) rfl ⟨by rw [HX7.out]; rfl, rfl⟩
                            · have k1 : (s[j].toNat : Int) < 48 := by omega
                              have k1d : decide ((s[j].toNat : Int) < 48) = true := decide_eq_true k1
                              clear hdg
                              go_wp2_with fail
                              try rw [Exit.noGoto_ret]
                              exact bodyPost_ret (v := .tuple #[.int .u64 m, .int .i64 0, .bool ng, .bool tr, .bool false, .int .i64 (j : Nat), .bool false]) (by simp [results, Tryz.results89, go_sem]) rfl ⟨by rw [HX7.out]; rfl, rfl⟩
                        · have d1 : decide (j < s.size) = false := decide_eq_false hjl
                          have d2i : decide ((s.size : Int) ≤ (j : Int)) = true := decide_eq_true (by omega)
                          have d3i : decide (s.size ≤ j) = true := decide_eq_true (by omega)
                          have HX7 : Sd (rd s = rdNo ⟨m, dot, true, tr, nd, nm, dp⟩ ng j) := ⟨by rw [HX6.out, rdE2, if_pos (Or.inl (by omega))]⟩
                          clear HX6
                          go_wp2_with fail
                          try rw [Exit.noGoto_ret]
                          exact bodyPost_ret (v := .tuple #[.int .u64 m, .int .i64 0, .bool ng, .bool tr, .bool false, .int .i64 (j : Nat), .bool false]) (by simp [results, Tryz.results89, go_sem]) rfl ⟨by rw [HX7.out]; rfl, rfl⟩
                    · have d2 : decide (i + 1 < s.size) = false := decide_eq_false hj
                      have d2i : decide ((s.size : Int) ≤ (i : Int) + 1) = true := decide_eq_true (by omega)
                      have d3i : decide (s.size ≤ i + 1) = true := decide_eq_true (by omega)
                      have HX5 : Sd (rd s = rdNo ⟨m, dot, true, tr, nd, nm, dp⟩ ng (i + 1)) := ⟨by rw [HX4.out, rdE1, if_pos (by omega)]⟩
                      clear HX4
                      go_wp2_with fail
                      try rw [Exit.noGoto_ret]
                      exact bodyPost_ret (v := .tuple #[.int .u64 m, .int .i64 0, .bool ng, .bool tr, .bool false, .int .i64 ((i : Int) + 1), .bool false]) (by simp [results, Tryz.results89, go_sem]) rfl ⟨by rw [HX5.out]; rfl, rfl⟩
                case rest =>
                  obtain ⟨i', dq, rfl, rfl, c1, rfl, c2, c3, rfl, HX4⟩ := hcut
                  clear HQ1 HQ2
                  cases hm0 : (m != 0)
                  · have HX5 : Sd (rd s = ⟨m, 0, ng, tr, i', true⟩) := ⟨by rw [HX4.out, rdEnd, if_neg (by rw [hm0]; simp)]⟩
                    go_wp2_with fail
                    try rw [Exit.noGoto_ret]
                    exact bodyPost_ret (v := .tuple #[.int .u64 m, .int .i64 0, .bool ng, .bool tr, .bool false, .int .i64 (i' : Nat), .bool true]) (by simp [results, Tryz.results89, go_sem]) rfl ⟨by rw [HX5.out]; rfl, rfl⟩
                  · have HX5 : Sd (rd s = ⟨m, dq - nm, ng, tr, i', true⟩) := ⟨by rw [HX4.out, rdEnd, if_pos hm0]⟩
                    go_wp2_with fail
                    try rw [Exit.noGoto_ret]
                    exact bodyPost_ret (v := .tuple #[.int .u64 m, .int .i64 (dq - nm), .bool ng, .bool tr, .bool false, .int .i64 (i' : Nat), .bool true]) (by simp [results, Tryz.results89, go_sem]) rfl ⟨by rw [HX5.out]; rfl, rfl⟩
  · have hz : s = ByteArray.empty := ByteArray.size_eq_zero_iff.1 (by omega)
    subst hz
    go_enter Tryz.func89, Tryz.ntmps89
    go_wp2_with fail
    go_step3
    go_wp2_with fail
    rw [Exit.noGoto_ret]
    exact bodyPost_ret (v := .tuple #[.int .u64 0, .int .i64 0, .bool false, .bool false, .bool false, .int .i64 0, .bool false]) (by simp [results, Tryz.results89, go_sem]) rfl ⟨rfl, rfl⟩

end Go.Proofs.YtcfgjmdfpnfkjaaGreatDoor
