/- Parts of the proof of the statement that this folder hands in: lemmas and contracts (Yc). -/
import Derived.Test.YtcfgjmdfpnfkjaaGreatDoorYb
import Derived.Test.YtcfgjmdfpnfkjaaGreatDoorZb
set_option linter.unusedSimpArgs false
set_option linter.unusedVariables false
set_option linter.unusedSimpArgs false
namespace Go.Proofs.YtcfgjmdfpnfkjaaGreatDoor
open Go.RowKit Pf

/-- A digit put behind the others. -/
def digG (c : Nat) (d : Dec) : Dec :=
  if c = 48 ∧ d.nd = 0 then { d with dp := d.dp - 1 }
  else if d.nd < 800 then { d with D := upd d.D d.nd c, nd := d.nd + 1 }
  else { d with tr := d.tr || decide (c ≠ 48) }
/-- The digits and the point; none: a second point. -/
def loopG (s : ByteArray) : Nat → Nat → Bool → Bool → Dec → Option (Nat × Bool × Bool × Dec)
  | 0, i, dot, dig, d => some (i, dot, dig, d)
  | f + 1, i, dot, dig, d =>
    if s.size ≤ i then some (i, dot, dig, d)
    else if atB s i = 46 then (if dot then none else loopG s f (i + 1) true dig { d with dp := d.nd })
    else if dgN (atB s i) then loopG s f (i + 1) dot true (digG (atB s i) d)
    else some (i, dot, dig, d)
def stEnd (s : ByteArray) (d : Dec) (i : Nat) : Option Dec := if i = s.size then some d else none
def stE3 (s : ByteArray) (d : Dec) (sg : Int) (i : Nat) : Option Dec := stEnd s { d with dp := d.dp + (expF s s.size i 0).2 * sg } (expF s s.size i 0).1
def stE2 (s : ByteArray) (d : Dec) (sg : Int) (i : Nat) : Option Dec := if s.size ≤ i ∨ ¬ dgN (atB s i) = true then none else stE3 s d sg i
def stE1 (s : ByteArray) (d : Dec) (i : Nat) : Option Dec :=
  if s.size ≤ i then none
  else if atB s i = 43 then stE2 s d 1 (i + 1)
  else if atB s i = 45 then stE2 s d (-1) (i + 1)
  else stE2 s d 1 i
def st3 (s : ByteArray) (d : Dec) (i : Nat) : Option Dec := if i < s.size ∧ (atB s i = 69 ∨ atB s i = 101) then stE1 s d (i + 1) else stEnd s d i
def st2 (s : ByteArray) : Option (Nat × Bool × Bool × Dec) → Option Dec
  | none => none
  | some (i, dot, dig, d) => if dig then st3 s (if dot then d else { d with dp := d.nd }) i else none
def dec0 (neg : Bool) : Dec := ⟨fun _ => 0, 0, 0, neg, false⟩
def st1 (s : ByteArray) (neg : Bool) (i : Nat) : Option Dec := st2 s (loopG s s.size i false false (dec0 neg))
/-- What 'set' reads. -/
def st (s : ByteArray) : Option Dec :=
  if s.size = 0 then none
  else if atB s 0 = 43 then st1 s false 1
  else if atB s 0 = 45 then st1 s true 1
  else st1 s false 0

/-- Digits, the first one none. -/
structure GI (d : Dec) : Prop where
  n8 : d.nd ≤ 800
  dig : ∀ i, i < d.nd → Dg (d.D i)
  lead : 0 < d.nd → d.D 0 ≠ 48
theorem GI.ok {d : Dec} (h : GI d) : d.Ok ∨ d.nd = 0 := by
  by_cases e : d.nd = 0
  · exact Or.inr e
  · exact Or.inl ⟨h.n8, by omega, h.dig, h.lead (by omega)⟩
theorem GI.zero (neg : Bool) : GI (dec0 neg) := ⟨by simp [dec0], fun i h => absurd h (by simp [dec0]), fun h => absurd h (by simp [dec0])⟩
theorem GI.dp {d : Dec} (h : GI d) (x : Int) : GI { d with dp := x } := ⟨h.n8, h.dig, h.lead⟩
theorem GI.tr {d : Dec} (h : GI d) (x : Bool) : GI { d with tr := x } := ⟨h.n8, h.dig, h.lead⟩
theorem GI.put {d : Dec} (h : GI d) {c : Nat} (hc : Dg c) (h8 : d.nd < 800) (hz : ¬ (c = 48 ∧ d.nd = 0)) : GI { d with D := upd d.D d.nd c, nd := d.nd + 1 } := by
  refine ⟨by show d.nd + 1 ≤ 800; omega, fun i hi => ?_, fun _ => ?_⟩
  · show Dg (upd d.D d.nd c i)
    by_cases e : i = d.nd
    · subst e; rw [upd_at]; exact hc
    · rw [upd_ne _ _ e]; exact h.dig i (by simp at hi; omega)
  · show upd d.D d.nd c 0 ≠ 48
    by_cases e : d.nd = 0
    · rw [e, upd_at]; exact fun h => hz ⟨h, e⟩
    · rw [upd_ne _ _ (by omega)]; exact h.lead (by omega)

section
variable {s : ByteArray} {g i : Nat} {dot dig : Bool} {d : Dec}
theorem loopG_end (h : s.size ≤ i) : loopG s g i dot dig d = some (i, dot, dig, d) := by
  cases g with
  | zero => rfl
  | succ f => rw [loopG, if_pos h]
theorem loopG_stop (h : i < s.size) (hc : s[i].toNat ≠ 46) (hd : dgN s[i].toNat = false) : loopG s g i dot dig d = some (i, dot, dig, d) := by
  cases g with
  | zero => rfl
  | succ f => rw [loopG, if_neg (by omega), atB_in h, if_neg hc, hd]; rfl
theorem loopG_dot2 (h : i < s.size) (hc : s[i].toNat = 46) : loopG s (g + 1) i true dig d = none := by
  rw [loopG, if_neg (by omega), atB_in h, if_pos hc, if_pos rfl]
theorem loopG_dot (h : i < s.size) (hc : s[i].toNat = 46) : loopG s (g + 1) i false dig d = loopG s g (i + 1) true dig { d with dp := d.nd } := by
  rw [loopG, if_neg (by omega), atB_in h, if_pos hc, if_neg (by simp)]
theorem loopG_dig (h : i < s.size) (hc : s[i].toNat ≠ 46) (hd : dgN s[i].toNat = true) : loopG s (g + 1) i dot dig d = loopG s g (i + 1) dot true (digG s[i].toNat d) := by
  rw [loopG, if_neg (by omega), atB_in h, if_neg hc, if_pos hd]
end

def SetR (s : ByteArray) (b : Nat) (wz : World) (e : Ending) (w' : World) : Prop :=
  e = .returned (.bool (st s).isSome) ∧ Ext wz w' ∧ ∀ d, st s = some d → DecIn w' b d ∧ GI d
theorem setR_no {s : ByteArray} {b : Nat} {wz w' : World} (h : st s = none) (he : Ext wz w') : SetR s b wz (.returned (.bool false)) w' := ⟨by rw [h]; rfl, he, fun d hd => by rw [h] at hd; cases hd⟩
theorem setR_yes {s : ByteArray} {b : Nat} {wz w' : World} {d : Dec} (h : st s = some d) (he : Ext wz w') (hd : DecIn w' b d) (hg : GI d) : SetR s b wz (.returned (.bool true)) w' :=
  ⟨by rw [h]; rfl, he, fun d' hd' => by rw [h] at hd'; cases hd'; exact ⟨hd, hg⟩⟩

set_option maxRecDepth 100000 in
set_option maxHeartbeats 8000000 in
theorem set_c (s : ByteArray) (hn : NumS s) (wz w : World) (b : Nat) (hs : s.size ≤ 1048576) (hb : wz.heap.size ≤ b) (hE : Ext wz w) (hD : DecIn w b (dec0 false)) : Calls Tryz.prog 95 #[.pointer (some ⟨b, 0, none⟩), .string s] w (SetR s b wz) := by
  have HN := Sd.mk hn
  have f1 := hD.g
  have f2 := hD.t
  have fz := hD.fz
  have HE0 : Sd (Ext wz ((w.setCell ⟨b, 802, none⟩ (.bool false)).setCell ⟨b, 803, none⟩ (.bool false))) := ⟨(hE.setCell hb _).setCell hb _⟩
  have HD0 : Sd (DecIn ((w.setCell ⟨b, 802, none⟩ (.bool false)).setCell ⟨b, 803, none⟩ (.bool false)) b (dec0 false)) := ⟨(DecAt.setG hD false).setT false⟩
  clear hn hE hD
  by_cases h0 : 0 < s.size
  · have hp : decide (0 < s.size) = true := decide_eq_true h0
    have hse : ¬ s = ByteArray.empty := fun e => by subst e; exact absurd h0 (by decide)
    have hRD : Sd (st s = if s[0].toNat = 43 then st1 s false 1 else if s[0].toNat = 45 then st1 s true 1 else st1 s false 0) := ⟨by unfold st; rw [if_neg (by omega), atB_in h0]⟩
    go_enter Tryz.func95, Tryz.ntmps95
    go_upto_block 0 with (fail)
    generalize (w.setCell ⟨b, 802, none⟩ (.bool false)).setCell ⟨b, 803, none⟩ (.bool false) = wy at HE0 HD0
    clear f1 f2 fz
    have fz := HD0.out.fz
    go_cut [5] from 23 to 33 (fun v5 wx => ∃ (ng : Bool) (i0 : Nat), v5 = .int .i64 i0 ∧ i0 ≤ 1 ∧ i0 ≤ s.size ∧ Sd (Ext wz wx) ∧ Sd (DecIn wx b (dec0 ng)) ∧ Sd (st s = st1 s ng i0))
    case first =>
      have f1 := HD0.out.g
      cases q1 : ((s[0].toNat : Int) == 43)
      · cases q2 : ((s[0].toNat : Int) == 45)
        · have hr : Sd (st s = st1 s false 0) := ⟨by rw [hRD.out, if_neg (by simp at q1; omega), if_neg (by simp at q2; omega)]⟩
          clear hRD
          go_wp2_with fail
          go_meet
          exact ⟨false, 0, rfl, by omega, by omega, HE0, HD0, hr⟩
        · have hr : Sd (st s = st1 s true 1) := ⟨by rw [hRD.out, if_neg (by simp at q1; omega), if_pos (by simp at q2; omega)]⟩
          clear hRD
          go_wp2_with fail
          go_meet
          exact ⟨true, 1, rfl, by omega, by omega, ⟨HE0.out.setCell hb _⟩, ⟨DecAt.setG HD0.out true⟩, hr⟩
      · have hr : Sd (st s = st1 s false 1) := ⟨by rw [hRD.out, if_pos (by simp at q1; omega)]⟩
        clear hRD
        go_wp2_with fail
        go_meet
        exact ⟨false, 1, rfl, by omega, by omega, HE0, HD0, hr⟩
    case rest =>
      obtain ⟨ng, i0, rfl, hi1, his, HE, HD, HRD⟩ := hcut
      clear hRD HE0 HD0 fz
      go_upto_block 1 with (fail)
      go_cut [5, 6, 7] from 34 to 116 (fun v5 v6 v7 wx => ∃ (i : Nat) (dot dig : Bool) (d : Dec), v5 = .int .i64 i ∧ v6 = .bool dot ∧ v7 = .bool dig ∧ i ≤ s.size ∧ -(i : Int) ≤ d.dp ∧ d.dp ≤ i ∧ d.nd ≤ i ∧ Sd (Ext wz wx) ∧ Sd (DecIn wx b d) ∧ Sd (GI d) ∧ Sd (st s = st2 s (some (i, dot, dig, d))))
      case first =>
        go_wp2_with fail
        go_loopg [5, 6, 7] s.size (fun g v5 v6 v7 wx => ∃ (i : Nat) (dot dig : Bool) (d : Dec), v5 = .int .i64 i ∧ v6 = .bool dot ∧ v7 = .bool dig ∧ i ≤ s.size ∧ -(i : Int) ≤ d.dp ∧ d.dp ≤ i ∧ d.nd ≤ i ∧ Sd (Ext wz wx) ∧ Sd (DecIn wx b d) ∧ Sd (GI d) ∧ s.size ≤ g + i ∧ Sd (loopG s g i dot dig d = loopG s s.size i0 false false (dec0 ng)))
        case atStart => exact ⟨i0, false, false, dec0 ng, rfl, rfl, rfl, by omega, by simp [dec0], by simp [dec0], by simp [dec0], HE, HD, ⟨GI.zero ng⟩, by omega, ⟨rfl⟩⟩
        case round =>
          clear HE HD
          obtain ⟨i, dot, dig, d, rfl, rfl, rfl, b1, b2, b3, b4, HE, HD, HG, hg, HL⟩ := hrel
          have fz := HD.out.fz
          have f1 := HD.out.n
          have f2 := HD.out.p
          have n8 := HG.out.n8
          by_cases hi : i < s.size
          · obtain ⟨g, rfl⟩ : ∃ g, gk = g + 1 := ⟨gk - 1, by omega⟩
            have d1 : decide (i < s.size) = true := decide_eq_true hi
            have d1i : decide ((i : Int) < (s.size : Int)) = true := decide_eq_true (by omega)
            have hcc := nmC_cases (HN.out.at hi)
            have q95 : ((s[i].toNat : Int) == 95) = false := by simp; omega
            by_cases h46 : s[i].toNat = 46
            · have q46 : ((s[i].toNat : Int) == 46) = true := by simp; omega
              have H46 := Sd.mk h46
              clear h46 hcc
              cases dot
              · have HL2 := Sd.mk ((loopG_dot (g := g) (dig := dig) (d := d) hi H46.out).symm.trans HL.out)
                clear HL
                go_wp2_with fail
                go_roundg g
                case measure => omega
                case rel => exact ⟨i + 1, true, dig, { d with dp := d.nd }, by first | rfl | go_num, by first | rfl | go_num, by first | rfl | go_num, by omega, by show -((i + 1 : Nat) : Int) ≤ (d.nd : Int); omega, by show (d.nd : Int) ≤ ((i + 1 : Nat) : Int); omega, by show d.nd ≤ i + 1; omega, ⟨HE.out.setCell hb _⟩, ⟨HD.out.setP _⟩, ⟨HG.out.dp _⟩, by omega, HL2⟩
              · have HL2 : Sd (st s = none) := ⟨by rw [HRD.out, st1, ← HL.out, loopG_dot2 hi H46.out]; rfl⟩
                clear HL
                go_wp2_with fail
                go_ret
                exact setR_no HL2.out HE.out
            · have q46 : ((s[i].toNat : Int) == 46) = false := by simp; omega
              by_cases hdg : 48 ≤ s[i].toNat ∧ s[i].toNat ≤ 57
              · have hdn : dgN s[i].toNat = true := by simp [dgN]; exact hdg
                have HDG : Sd (Dg s[i].toNat) := ⟨hdg⟩
                have k1 : (48 : Int) ≤ (s[i].toNat : Int) := by omega
                have k2 : (s[i].toNat : Int) ≤ 57 := by omega
                have k1d : decide ((48 : Int) ≤ (s[i].toNat : Int)) = true := decide_eq_true k1
                have k2d : decide ((s[i].toNat : Int) ≤ 57) = true := decide_eq_true k2
                have HLd := (loopG_dig (g := g) (dot := dot) (dig := dig) (d := d) hi h46 hdn).symm.trans HL.out
                clear HL hdn h46 hcc hdg
                by_cases hz : s[i].toNat = 48 ∧ d.nd = 0
                · have q48 : ((s[i].toNat : Int) == 48) = true := by simp; omega
                  have qnd : ((d.nd : Int) == 0) = true := by simp; omega
                  have HL2 : Sd (loopG s g (i + 1) dot true { d with dp := d.dp - 1 } = loopG s s.size i0 false false (dec0 ng)) := ⟨by rw [← HLd]; unfold digG; rw [if_pos hz]⟩
                  clear HLd hz
                  go_wp2_with fail
                  go_roundg g
                  case measure => omega
                  case rel => exact ⟨i + 1, dot, true, { d with dp := d.dp - 1 }, by first | rfl | go_num, by first | rfl | go_num, by first | rfl | go_num, by omega, by show -((i + 1 : Nat) : Int) ≤ d.dp - 1; omega, by show d.dp - 1 ≤ ((i + 1 : Nat) : Int); omega, by show d.nd ≤ i + 1; omega, ⟨HE.out.setCell hb _⟩, ⟨HD.out.setP _⟩, ⟨HG.out.dp _⟩, by omega, HL2⟩
                · have HZ := Sd.mk hz
                  by_cases h8 : d.nd < 800
                  · have HL2 : Sd (loopG s g (i + 1) dot true { d with D := upd d.D d.nd s[i].toNat, nd := d.nd + 1 } = loopG s s.size i0 false false (dec0 ng)) := ⟨by rw [← HLd]; unfold digG; rw [if_neg hz, if_pos h8]⟩
                    have d8 : decide ((d.nd : Int) < 800) = true := decide_eq_true (by omega)
                    have d8n : decide (d.nd < 800) = true := decide_eq_true h8
                    have h8i : (d.nd : Int) < 800 := by omega
                    have HG2 := Sd.mk (HG.out.put HDG.out h8 hz)
                    have f4 := HD.out.dig d.nd h8
                    clear HLd hz
                    cases q48 : ((s[i].toNat : Int) == 48)
                    · go_wp2_with fail
                      go_region_law (fail)
                      all_goals
                        go_wp2_with fail
                        go_roundg g
                        case measure => omega
                        case rel => exact ⟨i + 1, dot, true, { d with D := upd d.D d.nd s[i].toNat, nd := d.nd + 1 }, by first | rfl | go_num, by first | rfl | go_num, by first | rfl | go_num, by omega, by show -((i + 1 : Nat) : Int) ≤ d.dp; omega, by show d.dp ≤ ((i + 1 : Nat) : Int); omega, by show d.nd + 1 ≤ i + 1; omega, ⟨((HE.out.drewN _).setCell hb _).setCell hb _⟩, ⟨((HD.out.drewN _).upd h8 _).setN _⟩, HG2, by omega, HL2⟩
                    · have hnd : ((d.nd : Int) == 0) = false := by have := HZ.out; simp at q48; simp; omega
                      go_wp2_with fail
                      go_region_law (fail)
                      all_goals
                        go_wp2_with fail
                        go_roundg g
                        case measure => omega
                        case rel => exact ⟨i + 1, dot, true, { d with D := upd d.D d.nd s[i].toNat, nd := d.nd + 1 }, by first | rfl | go_num, by first | rfl | go_num, by first | rfl | go_num, by omega, by show -((i + 1 : Nat) : Int) ≤ d.dp; omega, by show d.dp ≤ ((i + 1 : Nat) : Int); omega, by show d.nd + 1 ≤ i + 1; omega, ⟨((HE.out.drewN _).setCell hb _).setCell hb _⟩, ⟨((HD.out.drewN _).upd h8 _).setN _⟩, HG2, by omega, HL2⟩
                  · have d8 : decide ((d.nd : Int) < 800) = false := decide_eq_false (by omega)
                    have d8n : decide (d.nd < 800) = false := decide_eq_false h8
                    have f5 := HD.out.t
                    cases q48 : ((s[i].toNat : Int) == 48)
                    · have HL2 : Sd (loopG s g (i + 1) dot true { d with tr := true } = loopG s s.size i0 false false (dec0 ng)) := ⟨by
                        rw [← HLd]; unfold digG; rw [if_neg hz, if_neg h8]
                        have : decide (s[i].toNat ≠ 48) = true := by simp at q48; simp; omega
                        simp only [this, Bool.or_true]⟩
                      have q48n : ((s[i].toNat : Int) != 48) = true := by simp at q48; simp; omega
                      clear HLd hz
                      go_wp2_with fail
                      go_roundg g
                      case measure => omega
                      case rel => exact ⟨i + 1, dot, true, { d with tr := true }, by first | rfl | go_num, by first | rfl | go_num, by first | rfl | go_num, by omega, by show -((i + 1 : Nat) : Int) ≤ d.dp; omega, by show d.dp ≤ ((i + 1 : Nat) : Int); omega, by show d.nd ≤ i + 1; omega, ⟨HE.out.setCell hb _⟩, ⟨HD.out.setT _⟩, ⟨HG.out.tr _⟩, by omega, HL2⟩
                    · have HL2 : Sd (loopG s g (i + 1) dot true d = loopG s s.size i0 false false (dec0 ng)) := ⟨by
                        rw [← HLd]; unfold digG; rw [if_neg hz, if_neg h8]
                        have : decide (s[i].toNat ≠ 48) = false := by simp at q48; simp; omega
                        simp only [this, Bool.or_false]⟩
                      have q48n : ((s[i].toNat : Int) != 48) = false := by simp at q48; simp; omega
                      have hnd : ((d.nd : Int) == 0) = false := by have := HZ.out; simp at q48; simp; omega
                      clear HLd hz
                      go_wp2_with fail
                      go_roundg g
                      case measure => omega
                      case rel => exact ⟨i + 1, dot, true, d, by first | rfl | go_num, by first | rfl | go_num, by first | rfl | go_num, by omega, by omega, by omega, by omega, HE, HD, HG, by omega, HL2⟩
              · have hdn : dgN s[i].toNat = false := by simp [dgN]; omega
                have HL2 : Sd (st s = st2 s (some (i, dot, dig, d))) := ⟨by rw [HRD.out, st1, ← HL.out, loopG_stop hi h46 hdn]⟩
                clear HL hdn h46 hcc
                by_cases k48 : 48 ≤ s[i].toNat
                · have k1 : (48 : Int) ≤ (s[i].toNat : Int) := by omega
                  have k2 : ¬ (s[i].toNat : Int) ≤ 57 := by omega
                  have k1d : decide ((48 : Int) ≤ (s[i].toNat : Int)) = true := decide_eq_true k1
                  have k2d : decide ((s[i].toNat : Int) ≤ 57) = false := decide_eq_false k2
                  clear hdg
                  go_wp2_with fail
                  go_meet
                  exact ⟨i, dot, dig, d, rfl, rfl, rfl, b1, b2, b3, b4, HE, HD, HG, HL2⟩
                · have k1 : ¬ (48 : Int) ≤ (s[i].toNat : Int) := by omega
                  have k1d : decide ((48 : Int) ≤ (s[i].toNat : Int)) = false := decide_eq_false k1
                  clear hdg
                  go_wp2_with fail
                  go_meet
                  exact ⟨i, dot, dig, d, rfl, rfl, rfl, b1, b2, b3, b4, HE, HD, HG, HL2⟩
          · have d1 : decide (i < s.size) = false := decide_eq_false hi
            have d1i : decide ((i : Int) < (s.size : Int)) = false := decide_eq_false (by omega)
            have HL2 : Sd (st s = st2 s (some (i, dot, dig, d))) := ⟨by rw [HRD.out, st1, ← HL.out, loopG_end (by omega)]⟩
            clear HL
            go_wp2_with fail
            go_meet
            exact ⟨i, dot, dig, d, rfl, rfl, rfl, b1, b2, b3, b4, HE, HD, HG, HL2⟩
      case rest =>
        clear HE HD
        obtain ⟨i, dot, dig, d, rfl, rfl, rfl, b1, b2, b3, b4, HE, HD, HG, HX⟩ := hcut
        cases dig
        · have HX2 : Sd (st s = none) := ⟨HX.out⟩
          clear HX
          go_wp2_with fail
          go_ret
          exact setR_no HX2.out HE.out
        · have HX2 : Sd (st s = st3 s (if dot then d else { d with dp := d.nd }) i) := ⟨HX.out⟩
          clear HX
          go_upto_if 120 with (fail)
          go_cut [] from 121 to 127 (fun wx => ∃ d' : Dec, -(i : Int) ≤ d'.dp ∧ d'.dp ≤ i ∧ Sd (Ext wz wx) ∧ Sd (DecIn wx b d') ∧ Sd (GI d') ∧ Sd (st s = st3 s d' i))
          case first =>
            have fz := HD.out.fz
            have f1 := HD.out.n
            have f2 := HD.out.p
            cases dot
            · go_wp2_with fail
              go_meet
              exact ⟨{ d with dp := d.nd }, by show -(i : Int) ≤ (d.nd : Int); omega, by show (d.nd : Int) ≤ i; omega, ⟨HE.out.setCell hb _⟩, ⟨HD.out.setP _⟩, ⟨HG.out.dp _⟩, HX2⟩
            · go_wp2_with fail
              go_meet
              exact ⟨d, b2, b3, HE, HD, HG, HX2⟩
          case rest =>
            clear HE HD HG
            obtain ⟨d', b6, b7, HE, HD, HG, HX3⟩ := hcut
            clear HX2
            go_upto_region 32 with (fail)
            go_cut [138] from 128 to 137 (fun v138 wx => ∃ q : Bool, v138 = .bool q ∧ wc = wx ∧ Sd (q = true → i < s.size ∧ st s = stE1 s d' (i + 1)) ∧ Sd (q = false → st s = stEnd s d' i))
            case first =>
              by_cases hi : i < s.size
              · have d1 : decide (i < s.size) = true := decide_eq_true hi
                have d1i : decide ((i : Int) < (s.size : Int)) = true := decide_eq_true (by omega)
                have hat := atB_in hi
                have hlo := lo_nm (HN.out.at hi)
                by_cases hE : s[i].toNat = 69 ∨ s[i].toNat = 101
                · have HX4 : Sd (st s = stE1 s d' (i + 1)) := ⟨by rw [HX3.out, st3, if_pos ⟨hi, by rw [hat]; exact hE⟩]⟩
                  have q1 : (loF (s[i].toNat : Int) == 101) = true := by
                    rw [hlo]; split
                    · rfl
                    · simp; omega
                  clear hat hlo hE HX3
                  go_wp2_with (first | (go_at_call 57; refine (lower_c _ _).mono ?_; rintro e w' ⟨rfl, rfl⟩) | fail)
                  go_meet
                  exact ⟨true, rfl, rfl, ⟨fun _ => ⟨hi, HX4.out⟩⟩, ⟨fun h => by cases h⟩⟩
                · have HX4 : Sd (st s = stEnd s d' i) := ⟨by rw [HX3.out, st3, if_neg (by rw [hat]; exact fun h => hE h.2)]⟩
                  have q1 : (loF (s[i].toNat : Int) == 101) = false := by
                    rw [hlo]; split
                    · exact absurd (Or.inl ‹_›) hE
                    · simp; omega
                  clear hat hlo hE HX3
                  go_wp2_with (first | (go_at_call 57; refine (lower_c _ _).mono ?_; rintro e w' ⟨rfl, rfl⟩) | fail)
                  go_meet
                  exact ⟨false, rfl, rfl, ⟨fun h => by cases h⟩, ⟨fun _ => HX4.out⟩⟩
              · have d1 : decide (i < s.size) = false := decide_eq_false hi
                have d1i : decide ((i : Int) < (s.size : Int)) = false := decide_eq_false (by omega)
                have HX4 : Sd (st s = stEnd s d' i) := ⟨by rw [HX3.out, st3, if_neg (fun h => hi h.1)]⟩
                clear HX3
                go_wp2_with fail
                go_meet
                exact ⟨false, rfl, rfl, ⟨fun h => by cases h⟩, ⟨fun _ => HX4.out⟩⟩
            case rest =>
              obtain ⟨q, rfl, rfl, HQ1, HQ2⟩ := hcut
              clear HX3
              go_upto_if 138 with (fail)
              go_cut [5, 8, 9] from 139 to 219 (fun v5 v8 v9 wx => ∃ (i' : Nat) (d'' : Dec), v5 = .int .i64 i' ∧ i' ≤ s.size ∧ Sd (Ext wz wx) ∧ Sd (DecIn wx b d'') ∧ Sd (GI d'') ∧ Sd (st s = stEnd s d'' i'))
              case first =>
                cases q
                · have HX4 := Sd.mk (HQ2.out rfl)
                  clear HQ1 HQ2
                  go_wp2_with fail
                  go_meet
                  exact ⟨i, d', rfl, b1, HE, HD, HG, HX4⟩
                · obtain ⟨hi, hx4⟩ := HQ1.out rfl
                  have HX4 := Sd.mk hx4
                  clear HQ1 HQ2 hx4
                  by_cases hj : i + 1 < s.size
                  · have d2 : decide (i + 1 < s.size) = true := decide_eq_true hj
                    have d2i : decide ((s.size : Int) ≤ (i : Int) + 1) = false := decide_eq_false (by omega)
                    have d3i : decide (s.size ≤ i + 1) = false := decide_eq_false (by omega)
                    have HX5 : Sd (st s = if s[i + 1].toNat = 43 then stE2 s d' 1 (i + 1 + 1) else if s[i + 1].toNat = 45 then stE2 s d' (-1) (i + 1 + 1) else stE2 s d' 1 (i + 1)) := ⟨by
                      rw [HX4.out, stE1, if_neg (by omega), atB_in hj]⟩
                    clear HX4
                    go_upto_block 4 with (fail)
                    go_cut [5, 8] from 148 to 155 (fun v5 v8 wx => ∃ (j : Nat) (sg : Int), v5 = .int .i64 j ∧ v8 = .int .i64 sg ∧ (sg = 1 ∨ sg = -1) ∧ j ≤ s.size ∧ wc = wx ∧ Sd (st s = stE2 s d' sg j))
                    case first =>
                      cases q43 : ((s[i + 1].toNat : Int) == 43)
                      · cases q45 : ((s[i + 1].toNat : Int) == 45)
                        · have hr : Sd (st s = stE2 s d' 1 (i + 1)) := ⟨by rw [HX5.out, if_neg (by simp at q43; omega), if_neg (by simp at q45; omega)]⟩
                          clear HX5
                          go_wp2_with fail
                          go_meet
                          exact ⟨i + 1, 1, by go_num, rfl, Or.inl rfl, by omega, rfl, hr⟩
                        · have hr : Sd (st s = stE2 s d' (-1) (i + 1 + 1)) := ⟨by rw [HX5.out, if_neg (by simp at q43; omega), if_pos (by simp at q45; omega)]⟩
                          clear HX5
                          go_wp2_with fail
                          go_meet
                          exact ⟨i + 1 + 1, -1, by go_num, rfl, Or.inr rfl, by omega, rfl, hr⟩
                      · have hr : Sd (st s = stE2 s d' 1 (i + 1 + 1)) := ⟨by rw [HX5.out, if_pos (by simp at q43; omega)]⟩
                        clear HX5
                        go_wp2_with fail
                        go_meet
                        exact ⟨i + 1 + 1, 1, by go_num, rfl, Or.inl rfl, by omega, rfl, hr⟩
                    case rest =>
                      obtain ⟨j, sg, rfl, rfl, hsg, hjs, rfl, HX6⟩ := hcut
                      have HSG := Sd.mk hsg
                      clear HX5 hsg d2 d2i d3i hj hi
                      by_cases hjl : j < s.size
                      · have d1 : decide (j < s.size) = true := decide_eq_true hjl
                        have d2i : decide ((s.size : Int) ≤ (j : Int)) = false := decide_eq_false (by omega)
                        have d3i : decide (s.size ≤ j) = false := decide_eq_false (by omega)
                        by_cases hdg : 48 ≤ s[j].toNat ∧ s[j].toNat ≤ 57
                        · have hdn : dgN s[j].toNat = true := by simp [dgN]; exact hdg
                          have HX7 : Sd (st s = stE3 s d' sg j) := ⟨by rw [HX6.out, stE2, if_neg (by rw [atB_in hjl, hdn]; simp; omega)]⟩
                          have k1 : ¬ ((s[j].toNat : Int) < 48) := by omega
                          have k2 : ¬ (57 < (s[j].toNat : Int)) := by omega
                          have k1d : decide ((s[j].toNat : Int) < 48) = false := decide_eq_false k1
                          have k2d : decide (57 < (s[j].toNat : Int)) = false := decide_eq_false k2
                          clear HX6 hdn hdg
                          go_upto_block 5 with (fail)
                          clear d1 d2i d3i k1 k2 k1d k2d
                          go_cut [5, 9] from 172 to 209 (fun v5 v9 wx => ∃ (i' e : Nat), v5 = .int .i64 i' ∧ v9 = .int .i64 e ∧ i' ≤ s.size ∧ e ≤ 100000 ∧ wc = wx ∧ Sd (st s = stEnd s { d' with dp := d'.dp + e * sg } i'))
                          case first =>
                            go_wp2_with fail
                            go_loopg [5, 9] s.size (fun g v5 v9 wx => ∃ (i' e : Nat), v5 = .int .i64 i' ∧ v9 = .int .i64 e ∧ i' ≤ s.size ∧ e ≤ 100000 ∧ wc = wx ∧ s.size ≤ g + i' ∧ Sd (expF s g i' e = expF s s.size j 0))
                            case atStart => exact ⟨j, 0, rfl, rfl, by omega, by omega, rfl, by omega, ⟨rfl⟩⟩
                            case round =>
                              obtain ⟨i', e, rfl, rfl, c1, c2, rfl, hg, HL⟩ := hrel
                              by_cases hi : i' < s.size
                              · obtain ⟨g, rfl⟩ : ∃ g, gk = g + 1 := ⟨gk - 1, by omega⟩
                                have d1 : decide (i' < s.size) = true := decide_eq_true hi
                                have d1i : decide ((i' : Int) < (s.size : Int)) = true := decide_eq_true (by omega)
                                have hcc := nmC_cases (HN.out.at hi)
                                have q95 : ((s[i'].toNat : Int) == 95) = false := by simp; omega
                                by_cases hdg : 48 ≤ s[i'].toNat ∧ s[i'].toNat ≤ 57
                                · have hdn : dgN s[i'].toNat = true := by simp [dgN]; exact hdg
                                  have HL2 := (expF_dig (g := g) (e := e) hi hdn).symm.trans HL.out
                                  have k1 : (48 : Int) ≤ (s[i'].toNat : Int) := by omega
                                  have k2 : (s[i'].toNat : Int) ≤ 57 := by omega
                                  have k1d : decide ((48 : Int) ≤ (s[i'].toNat : Int)) = true := decide_eq_true k1
                                  have k2d : decide ((s[i'].toNat : Int) ≤ 57) = true := decide_eq_true k2
                                  have k3 : 48 ≤ s[i'].toNat := hdg.1
                                  clear HL hdn hcc hdg
                                  by_cases he : e < 10000
                                  · rw [if_pos he] at HL2
                                    have HL3 := Sd.mk HL2
                                    have hed : decide ((e : Int) < 10000) = true := decide_eq_true (by omega)
                                    have heq : (e : Int) * 10 + (s[i'].toNat : Int) - 48 = ((e * 10 + (s[i'].toNat - 48) : Nat) : Int) := by omega
                                    have HEQ := Sd.mk heq
                                    clear HL2 heq
                                    go_wp2_with fail
                                    go_roundg g
                                    case measure => omega
                                    case rel => exact ⟨i' + 1, e * 10 + (s[i'].toNat - 48), by go_num, by rw [← HEQ.out], by omega, by omega, rfl, by omega, HL3⟩
                                  · rw [if_neg he] at HL2
                                    have HL3 := Sd.mk HL2
                                    have hed : decide ((e : Int) < 10000) = false := decide_eq_false (by omega)
                                    clear HL2
                                    go_wp2_with fail
                                    go_roundg g
                                    case measure => omega
                                    case rel => exact ⟨i' + 1, e, by go_num, rfl, by omega, by omega, rfl, by omega, HL3⟩
                                · have hdn : dgN s[i'].toNat = false := by simp [dgN]; omega
                                  have HL2 : Sd (st s = stEnd s { d' with dp := d'.dp + e * sg } i') := ⟨by rw [HX7.out, stE3, ← HL.out, expF_stop hi hdn]⟩
                                  clear HL hdn hcc
                                  by_cases k48 : 48 ≤ s[i'].toNat
                                  · have k1 : (48 : Int) ≤ (s[i'].toNat : Int) := by omega
                                    have k2 : ¬ (s[i'].toNat : Int) ≤ 57 := by omega
                                    have k1d : decide ((48 : Int) ≤ (s[i'].toNat : Int)) = true := decide_eq_true k1
                                    have k2d : decide ((s[i'].toNat : Int) ≤ 57) = false := decide_eq_false k2
                                    clear hdg
                                    go_wp2_with fail
                                    go_meet
                                    exact ⟨i', e, rfl, rfl, by omega, c2, rfl, HL2⟩
                                  · have k1 : ¬ (48 : Int) ≤ (s[i'].toNat : Int) := by omega
                                    have k1d : decide ((48 : Int) ≤ (s[i'].toNat : Int)) = false := decide_eq_false k1
                                    clear hdg
                                    go_wp2_with fail
                                    go_meet
                                    exact ⟨i', e, rfl, rfl, by omega, c2, rfl, HL2⟩
                              · have d1 : decide (i' < s.size) = false := decide_eq_false hi
                                have d1i : decide ((i' : Int) < (s.size : Int)) = false := decide_eq_false (by omega)
                                have HL2 : Sd (st s = stEnd s { d' with dp := d'.dp + e * sg } i') := ⟨by rw [HX7.out, stE3, ← HL.out, expF_end (by omega)]⟩
                                clear HL
                                go_wp2_with fail
                                go_meet
                                exact ⟨i', e, rfl, rfl, by omega, c2, rfl, HL2⟩
                          case rest =>
                            obtain ⟨i', e, rfl, rfl, c1, c2, rfl, HX8⟩ := hcut
                            clear HX7
                            have fz := HD.out.fz
                            have f2 := HD.out.p
                            rcases HSG.out with rfl | rfl
                            · have HX9 : Sd (st s = stEnd s { d' with dp := d'.dp + e } i') := ⟨by rw [HX8.out, Int.mul_one]⟩
                              clear HX8
                              go_wp2_with fail
                              go_meet
                              exact ⟨i', _, rfl, c1, ⟨HE.out.setCell hb _⟩, ⟨HD.out.setP _⟩, ⟨HG.out.dp _⟩, HX9⟩
                            · have HX9 : Sd (st s = stEnd s { d' with dp := d'.dp + -(e : Int) } i') := ⟨by rw [HX8.out, Int.mul_neg, Int.mul_one]⟩
                              clear HX8
                              go_wp2_with fail
                              go_meet
                              exact ⟨i', _, rfl, c1, ⟨HE.out.setCell hb _⟩, ⟨HD.out.setP _⟩, ⟨HG.out.dp _⟩, HX9⟩
                        · have hdn : dgN s[j].toNat = false := by simp [dgN]; omega
                          have HX7 : Sd (st s = none) := ⟨by rw [HX6.out, stE2, if_pos (Or.inr (by rw [atB_in hjl, hdn]; simp))]⟩
                          clear HX6 hdn
                          by_cases k48 : 48 ≤ s[j].toNat
                          · have k1 : ¬ ((s[j].toNat : Int) < 48) := by omega
                            have k2 : 57 < (s[j].toNat : Int) := by omega
                            have k1d : decide ((s[j].toNat : Int) < 48) = false := decide_eq_false k1
                            have k2d : decide (57 < (s[j].toNat : Int)) = true := decide_eq_true k2
                            clear hdg
                            go_wp2_with fail
                            go_ret
                            exact setR_no HX7.out HE.out
                          · have k1 : (s[j].toNat : Int) < 48 := by omega
                            have k1d : decide ((s[j].toNat : Int) < 48) = true := decide_eq_true k1
                            clear hdg
                            go_wp2_with fail
                            go_ret
                            exact setR_no HX7.out HE.out
                      · have d1 : decide (j < s.size) = false := decide_eq_false hjl
                        have d2i : decide ((s.size : Int) ≤ (j : Int)) = true := decide_eq_true (by omega)
                        have d3i : decide (s.size ≤ j) = true := decide_eq_true (by omega)
                        have HX7 : Sd (st s = none) := ⟨by rw [HX6.out, stE2, if_pos (Or.inl (by omega))]⟩
                        clear HX6
                        go_wp2_with fail
                        go_ret
                        exact setR_no HX7.out HE.out
                  · have d2 : decide (i + 1 < s.size) = false := decide_eq_false hj
                    have d2i : decide ((s.size : Int) ≤ (i : Int) + 1) = true := decide_eq_true (by omega)
                    have d3i : decide (s.size ≤ i + 1) = true := decide_eq_true (by omega)
                    have HX5 : Sd (st s = none) := ⟨by rw [HX4.out, stE1, if_pos (by omega)]⟩
                    clear HX4
                    go_wp2_with fail
                    go_ret
                    exact setR_no HX5.out HE.out
              case rest =>
                clear HE HD HG
                obtain ⟨i', d'', rfl, c1, HE, HD, HG, HX4⟩ := hcut
                clear HQ1 HQ2
                by_cases he : i' = s.size
                · have HX5 : Sd (st s = some d'') := ⟨by rw [HX4.out, stEnd, if_pos he]⟩
                  have hq : ((i' : Int) != (s.size : Int)) = false := by simp; omega
                  clear HX4 he
                  go_wp2_with fail
                  go_ret
                  exact setR_yes HX5.out HE.out HD.out HG.out
                · have HX5 : Sd (st s = none) := ⟨by rw [HX4.out, stEnd, if_neg he]⟩
                  have hq : ((i' : Int) != (s.size : Int)) = true := by simp; omega
                  clear HX4 he
                  go_wp2_with fail
                  go_ret
                  exact setR_no HX5.out HE.out
  · have hz : s = ByteArray.empty := ByteArray.size_eq_zero_iff.1 (by omega)
    subst hz
    go_enter Tryz.func95, Tryz.ntmps95
    go_wp2_with fail
    go_ret
    exact setR_no rfl HE0.out

end Go.Proofs.YtcfgjmdfpnfkjaaGreatDoor
