/- Parts of the proof of the statement that this folder hands in: lemmas and contracts (Zc, Zd). -/
import Derived.Test.YtcfgjmdfpnfkjaaGreatDoorZb
import Derived.Test.YtcfgjmdfpnfkjaaGreatDoorWa
import Derived.Test.YtcfgjmdfpnfkjaaGreatDoorT
import Derived.Outline
import Derived.WalkMore
import Derived.ScopeJumps
set_option linter.unusedSimpArgs false
set_option linter.unusedVariables false
set_option linter.unusedSimpArgs false
namespace Go.Proofs.YtcfgjmdfpnfkjaaGreatDoor
open Go.RowKit Pf

def SruC (d : Dec) (n : Int) (q : Bool) : Prop := ∀ (w : World) (b : Nat), DecIn w b d → Calls Tryz.prog 131 #[.pointer (some ⟨b, 0, none⟩), .int .i64 n] w fun en w' => en = .returned (.bool q) ∧ w' = w
set_option maxRecDepth 100000 in
set_option maxHeartbeats 4000000 in
/-- Whether to round up hangs on the digits alone. -/
theorem sru_e (d : Dec) (ok : d.Ok) (n : Int) (h1 : -1000000 ≤ n) (h2 : n ≤ 1000000) : ∃ q, SruC d n q := by
  have n8 := ok.n8
  have OK := Sd.mk ok
  clear ok
  by_cases hn : n < 0
  · refine ⟨false, fun w b h => ?_⟩
    have f1 := h.n
    clear h
    go_enter Tryz.func131, Tryz.ntmps131
    go_wp2_with fail
    go_ret
    exact ⟨rfl, rfl⟩
  · obtain ⟨j, rfl⟩ : ∃ j : Nat, n = j := ⟨n.toNat, by omega⟩
    by_cases hj : d.nd ≤ j
    · refine ⟨false, fun w b h => ?_⟩
      have f1 := h.n
      have hq : decide ((d.nd : Int) ≤ (j : Int)) = true := decide_eq_true (by omega)
      have hq2 : decide (d.nd ≤ j) = true := decide_eq_true (by omega)
      clear h
      go_enter Tryz.func131, Tryz.ntmps131
      go_wp2_with fail
      go_ret
      exact ⟨rfl, rfl⟩
    · have hq : decide ((d.nd : Int) ≤ (j : Int)) = false := decide_eq_false (by omega)
      have hq2 : decide (d.nd ≤ j) = false := decide_eq_false (by omega)
      have hj8 : decide (j < 800) = true := decide_eq_true (by omega)
      cases h5 : ((d.D j : Int) == 53)
      · refine ⟨decide ((53 : Int) ≤ d.D j), fun w b h => ?_⟩
        have f1 := h.n
        have f2 := h.dig j (by omega)
        clear h
        go_enter Tryz.func131, Tryz.ntmps131
        go_wp2_with fail
        go_ret
        exact ⟨rfl, rfl⟩
      · by_cases hl : j + 1 = d.nd
        · have hl2 : ((j : Int) + 1 == (d.nd : Int)) = true := by simp; omega
          have HL := Sd.mk hl
          clear hl
          cases ht : d.tr
          · by_cases h0 : 0 < j
            · have hdg := OK.out.dig (j - 1) (by omega)
              have hdg1 : 48 ≤ d.D (j - 1) := hdg.1
              have hdg2 : d.D (j - 1) ≤ 57 := hdg.2
              have h1j : (1 : Int) ≤ (j : Int) := by omega
              have hi8 : decide ((j : Int) - 1 < 800) = true := decide_eq_true (by omega)
              have htn : ((j : Int) - 1).toNat = j - 1 := by omega
              clear hdg
              refine ⟨(((d.D (j - 1) : Int) - 48) % 2 != 0), fun w b h => ?_⟩
              have f1 := h.n
              have f2 := h.dig j (by omega)
              have f3 := h.t
              have f4 := h.dig (j - 1) (by omega)
              rw [ht] at f3
              clear h ht
              go_enter Tryz.func131, Tryz.ntmps131
              go_wp2_with fail
              go_ret
              exact ⟨rfl, rfl⟩
            · obtain rfl : j = 0 := by omega
              refine ⟨false, fun w b h => ?_⟩
              have f1 := h.n
              have f2 := h.dig 0 (by omega)
              have f3 := h.t
              rw [ht] at f3
              clear h ht
              go_enter Tryz.func131, Tryz.ntmps131
              go_wp2_with fail
              go_ret
              exact ⟨rfl, rfl⟩
          · refine ⟨true, fun w b h => ?_⟩
            have f1 := h.n
            have f2 := h.dig j (by omega)
            have f3 := h.t
            rw [ht] at f3
            clear h ht
            go_enter Tryz.func131, Tryz.ntmps131
            go_wp2_with fail
            go_ret
            exact ⟨rfl, rfl⟩
        · have hl2 : ((j : Int) + 1 == (d.nd : Int)) = false := by simp; omega
          refine ⟨decide ((53 : Int) ≤ d.D j), fun w b h => ?_⟩
          have f1 := h.n
          have f2 := h.dig j (by omega)
          clear h hl
          go_enter Tryz.func131, Tryz.ntmps131
          go_wp2_with fail
          go_ret
          exact ⟨rfl, rfl⟩

/-- The digits ahead of the point. -/
def riA (D : Nat → Nat) : Nat → Int
  | 0 => 0
  | i + 1 => IntKind.u64.wrap (IntKind.u64.wrap (riA D i * 10) + ((D i : Int) - 48))
/-- Zeros behind them. -/
def riB (n : Int) : Nat → Int
  | 0 => n
  | i + 1 => IntKind.u64.wrap (riB n i * 10)
def RiC (d : Dec) (r : Int) : Prop := ∀ (w : World) (b : Nat), DecIn w b d → Calls Tryz.prog 121 #[.pointer (some ⟨b, 0, none⟩)] w fun en w' => en = .returned (.int .u64 r) ∧ w' = w
theorem ret_u {a b : Int} (h : a = b) : Ending.returned (.int .u64 a) = .returned (.int .u64 b) := by rw [h]
set_option maxRecDepth 100000 in
set_option maxHeartbeats 4000000 in
theorem ri_e (d : Dec) (ok : d.Ok) (h1 : -1000000 ≤ d.dp) (h2 : d.dp ≤ 1000000) : ∃ r, RiC d r := by
  have n8 := ok.n8
  have hpos := ok.pos
  obtain ⟨q, hq⟩ := sru_e d ok d.dp h1 h2
  have HQ := Sd.mk hq
  have OK := Sd.mk ok
  clear ok hq
  by_cases h20 : 20 < d.dp
  · refine ⟨18446744073709551615, fun w b h => ?_⟩
    have f1 := h.p
    clear h
    go_enter Tryz.func121, Tryz.ntmps121
    go_wp2_with fail
    go_ret
    exact ⟨rfl, rfl⟩
  · refine ⟨if q then IntKind.u64.wrap (riB (riA d.D (min d.dp.toNat d.nd)) (d.dp.toNat - min d.dp.toNat d.nd) + 1) else riB (riA d.D (min d.dp.toNat d.nd)) (d.dp.toNat - min d.dp.toNat d.nd), fun w b h => ?_⟩
    have f1 := h.n
    have f2 := h.p
    have HD := Sd.mk h
    have h20f : decide (20 < d.dp) = false := decide_eq_false h20
    obtain ⟨m, hm⟩ : ∃ m, m = min d.dp.toNat d.nd := ⟨_, rfl⟩
    rw [← hm]
    obtain ⟨p, hp⟩ : ∃ p, p = d.dp.toNat := ⟨_, rfl⟩
    rw [← hp] at hm ⊢
    have hmp : m ≤ p := by omega
    have hmd : m ≤ d.nd := by omega
    have hp20 : p ≤ 20 := by omega
    have HM := Sd.mk hm
    have HP := Sd.mk hp
    clear h hm hp h20
    go_enter Tryz.func121, Tryz.ntmps121
    go_wp2_with fail
    go_loopg [3, 4] m (fun g v3 v4 wr => ∃ i : Nat, v3 = .int .i64 i ∧ v4 = .int .u64 (riA d.D i) ∧ g + i = m ∧ w = wr)
    case atStart => exact ⟨0, rfl, rfl, by omega, rfl⟩
    case round =>
      obtain ⟨i, rfl, rfl, hg, rfl⟩ := hrel
      by_cases hi : i < m
      · have q1 : decide ((i : Int) < d.dp) = true := decide_eq_true (by have := HM.out; have := HP.out; omega)
        have q2 : decide ((i : Int) < (d.nd : Int)) = true := decide_eq_true (by have := HM.out; omega)
        have q3 : decide (i < d.nd) = true := decide_eq_true (by have := HM.out; omega)
        have f4 := HD.out.dig i (by omega)
        have hdg := OK.out.dig i (by omega)
        have hdg1 : 48 ≤ d.D i := hdg.1
        have hdg2 : d.D i ≤ 57 := hdg.2
        have hi8 : decide (i < 800) = true := decide_eq_true (by omega)
        clear hdg
        go_wp2_with fail
        go_roundg (m - (i + 1))
        case measure => omega
        case rel => exact ⟨i + 1, by go_num, rfl, by omega, rfl⟩
      · obtain rfl : i = m := by omega
        have hcase : (decide ((i : Int) < d.dp) = true ∧ decide ((i : Int) < (d.nd : Int)) = false ∧ decide (i < d.nd) = false) ∨ decide ((i : Int) < d.dp) = false := by
          have := HM.out; have := HP.out
          by_cases hip : i < p
          · left; exact ⟨decide_eq_true (by omega), decide_eq_false (by omega), decide_eq_false (by omega)⟩
          · right; exact decide_eq_false (by omega)
        rcases hcase with ⟨q1, q2, q3⟩ | q1
        all_goals
          go_wp2_with fail
          clear q1
          go_loopg [3, 4] (p - i) (fun g v3 v4 wr => ∃ j : Nat, v3 = .int .i64 j ∧ v4 = .int .u64 (riB (riA d.D i) (j - i)) ∧ i ≤ j ∧ g + j = p ∧ w = wr)
          case atStart => exact ⟨i, rfl, by rw [Nat.sub_self]; rfl, by omega, by omega, rfl⟩
          case round =>
            obtain ⟨j, rfl, rfl, hij, hgj, rfl⟩ := hrel
            by_cases hj : j < p
            · have q4 : decide ((j : Int) < d.dp) = true := decide_eq_true (by have := HP.out; omega)
              have hjs : j + 1 - i = (j - i) + 1 := by omega
              have HJ : Sd (riB (riA d.D i) (j + 1 - i) = IntKind.u64.wrap (riB (riA d.D i) (j - i) * 10)) := ⟨by rw [hjs]; rfl⟩
              clear hjs
              go_wp2_with fail
              go_roundg (p - (j + 1))
              case measure => omega
              case rel => exact ⟨j + 1, by go_num, by rw [HJ.out], by omega, by omega, rfl⟩
            · obtain rfl : j = p := by omega
              have q4 : decide ((j : Int) < d.dp) = false := decide_eq_false (by have := HP.out; omega)
              go_wp2_with fail
              refine (HQ.out _ _ HD.out).mono ?_
              rintro e w9 ⟨rfl, rfl⟩
              cases q
              · go_wp2_with fail
                go_ret
                exact ⟨rfl, rfl⟩
              · go_wp2_with fail
                go_ret
                exact ⟨rfl, rfl⟩

end Go.Proofs.YtcfgjmdfpnfkjaaGreatDoor
set_option linter.unusedVariables false
set_option linter.unusedSimpArgs false
namespace Go.Proofs.YtcfgjmdfpnfkjaaGreatDoor
open Go.RowKit Pf

/-- As Q; by a goto: J. -/
def ExJ (J : Nat → Act → World → Prop) (Q : Exit → Act → World → Prop) : Exit → Act → World → Prop
  | .goto l, a, w => J l a w
  | e, a, w => Q e a w
@[go_sem] theorem ExJ_ret (J : Nat → Act → World → Prop) (Q : Exit → Act → World → Prop) (a : Act) (w : World) : ExJ J Q .ret a w = Q .ret a w := rfl
/-- A scope with two labels to which the run goes on: behind a goto the label's code. -/
theorem wp_scope_go {P : Program} {Q : Exit → Act → World → Prop} {a : Act} {w : World} {c r0 r1 : Code} (h0 : findLabel c 0 = some r0) (h1 : findLabel c 1 = some r1)
    (first : c.wp P (ExJ (fun l a w => (l = 0 ∧ r0.wp P (Exit.noGoto Q) a w) ∨ (l = 1 ∧ r1.wp P (Exit.noGoto Q) a w)) Q) a w) : (Code.scope c).wp P Q a w := by
  intro b k cs
  have key : ∀ (l : Nat) (r : Code) a w, findLabel c l = some r → r.wp P (Exit.noGoto Q) a w → ∃ e a' w', Q e a' w' ∧ Arrives P (lone (b.at a (.code r :: .inScope c :: k)) cs w) b k cs e a' w' := by
    intro l r a w hl hr
    obtain ⟨e, a₁, w₁, hq, harr⟩ := hr b (.inScope c :: k) cs
    cases e with
    | normal => exact ⟨.normal, a₁, w₁, hq, Steps.trans harr (.one step_inScope)⟩
    | exit id => exact ⟨.exit id, a₁, w₁, hq, fun k' hk => harr k' (by simp [exitTo, hk])⟩
    | goto l' => exact hq.elim
    | ret => exact ⟨_, a₁, w₁, hq, harr⟩
    | panic ch => exact ⟨_, a₁, w₁, hq, harr⟩
    | outgrown => exact ⟨_, a₁, w₁, hq, harr⟩
  obtain ⟨e, a₁, w₁, hq, harr⟩ := first b (.inScope c :: k) cs
  cases e with
  | normal => exact ⟨.normal, a₁, w₁, hq, .head step_scope (Steps.trans harr (.one step_inScope))⟩
  | exit id => exact ⟨.exit id, a₁, w₁, hq, fun k' hk => .head step_scope (harr k' (by simp [exitTo, hk]))⟩
  | goto l' =>
    rcases hq with ⟨rfl, hr⟩ | ⟨rfl, hr⟩
    · have hg : gotoIn 0 (.inScope c :: k) = some (.code r0 :: .inScope c :: k) := by simp [gotoIn, h0]
      obtain ⟨e₂, a₂, w₂, hq₂, harr₂⟩ := key 0 r0 a₁ w₁ h0 hr
      exact ⟨e₂, a₂, w₂, hq₂, .of_steps (.head step_scope (harr _ hg)) harr₂⟩
    · have hg : gotoIn 1 (.inScope c :: k) = some (.code r1 :: .inScope c :: k) := by simp [gotoIn, h1]
      obtain ⟨e₂, a₂, w₂, hq₂, harr₂⟩ := key 1 r1 a₁ w₁ h1 hr
      exact ⟨e₂, a₂, w₂, hq₂, .of_steps (.head step_scope (harr _ hg)) harr₂⟩
  | ret => exact ⟨_, a₁, w₁, hq, .of_steps (.one step_scope) harr⟩
  | panic ch => exact ⟨_, a₁, w₁, hq, .of_steps (.one step_scope) harr⟩
  | outgrown => exact ⟨_, a₁, w₁, hq, .of_steps (.one step_scope) harr⟩

/-- What the package lays down ahead of the call, as far as it is wanted. -/
structure LayP where
  R : Nat × Nat
  S : Nat → ByteArray
  RF : Nat × Nat
  F : Nat → Nat
  RP : Nat × Nat
  T : Nat → Int
structure Lay (L : LayP) (w : World) : Prop where
  cheats : Cheats L.R L.S w
  exact : Exact L.F L.RF w
  pow : Pow L.T w
  v7 : w.cell? ⟨7, 0, none⟩ = some (.slice (some ⟨L.RP.1, L.RP.2, none⟩) 9 9)
  row7 : ∀ i, i < 9 → w.cell? ⟨L.RP.1, L.RP.2 + i, none⟩ = some (.int .i64 (pw i : Nat))
  v4 : w.cell? ⟨4, 0, none⟩ = some (.bool true)
  v1 : ∃ ev, w.cell? ⟨1, 0, none⟩ = some ev ∧ (ev = .nilIface ∨ ∃ te pe, ev = .iface te pe)
  v2 : ∃ ev, w.cell? ⟨2, 0, none⟩ = some ev ∧ (ev = .nilIface ∨ ∃ te pe, ev = .iface te pe)
theorem Exact.ext {F : Nat → Nat} {R : Nat × Nat} {w w' : World} (h : Exact F R w) (e : Ext w w') : Exact F R w' :=
  ⟨e.cell h.v8, fun i hi => e.cell (h.row i hi), h.nz, e.cell h.m5, e.cell h.e5, e.cell h.b5⟩
theorem Lay.ext {L : LayP} {w w' : World} (h : Lay L w) (e : Ext w w') : Lay L w' :=
  ⟨h.cheats.ext e, h.exact.ext e, h.pow.ext e, e.cell h.v7, fun i hi => e.cell (h.row7 i hi), e.cell h.v4, (let ⟨ev, a, b⟩ := h.v1; ⟨ev, e.cell a, b⟩), (let ⟨ev, a, b⟩ := h.v2; ⟨ev, e.cell a, b⟩)⟩

noncomputable def riF (d : Dec) : Int := open Classical in if h : ∃ r, RiC d r then h.choose else 0
theorem ri_c (d : Dec) (ok : d.Ok) (h1 : -1000000 ≤ d.dp) (h2 : d.dp ≤ 1000000) : RiC d (riF d) := by
  have h := ri_e d ok h1 h2
  unfold riF
  rw [dif_pos h]
  exact h.choose_spec

/-- The word out of a significand, an exponent and a sign. -/
def fbO (m e : Int) (neg : Bool) : Int :=
  if neg then bits BinOp.or IntKind.u64 (bits BinOp.or IntKind.u64 (bits BinOp.and IntKind.u64 m 4503599627370495) (IntKind.u64.wrap (IntKind.u64.wrap (bits BinOp.and IntKind.i64 (e + 1023) 2047) * 4503599627370496))) 9223372036854775808
  else bits BinOp.or IntKind.u64 (bits BinOp.and IntKind.u64 m 4503599627370495) (IntKind.u64.wrap (IntKind.u64.wrap (bits BinOp.and IntKind.i64 (e + 1023) 2047) * 4503599627370496))
def FbC (L : LayP) (d : Dec) (x : Int) (ov : Bool) : Prop := ∀ (wz w : World) (b : Nat), Lay L wz → wz.heap.size ≤ b → Ext wz w → DecIn w b d →
  Calls Tryz.prog 96 #[.pointer (some ⟨b, 0, none⟩), .pointer (some ⟨5, 0, none⟩)] w fun en w' => en = .returned (.tuple #[.int .u64 x, .bool ov]) ∧ Ext wz w'

theorem ret_ub {a c : Int} {v : Bool} (h : a = c) : Ending.returned (.tuple #[.int .u64 a, .bool v]) = .returned (.tuple #[.int .u64 c, .bool v]) := by rw [h]
set_option maxRecDepth 100000 in
set_option maxHeartbeats 4000000 in
theorem fb_zero (L : LayP) (d : Dec) (hn : d.nd = 0) : FbC L d (fbO 0 (-1023) d.neg) false := by
  intro wz w b hL hb hE h
  have HE := Sd.mk hE
  have HL := Sd.mk hL
  have f1 := h.n
  have f2 := h.g
  have f3 := h.p
  have m5 := hE.cell hL.exact.m5
  have e5 := hE.cell hL.exact.e5
  have b5 := hE.cell hL.exact.b5
  rw [hn] at f1
  clear h hE hL hn
  go_enter Tryz.func96, Tryz.ntmps96
  go_wp2_with fail
  refine wp_scope_go rfl rfl ?_
  go_wp2_with fail
  go_step3
  refine Or.inl ⟨rfl, ?_⟩
  go_wp2_with fail
  go_quiet (fail)
  cases hg : d.neg
  · go_wp2_with fail
    rw [Exit.noGoto_ret]
    go_ret2
    exact ⟨ret_ub (by rw [hg]; rfl), HE.out.drewN _⟩
  · go_wp2_with fail
    go_quiet (fail)
    go_wp2_with fail
    rw [Exit.noGoto_ret]
    go_ret2
    exact ⟨ret_ub (by rw [hg]; rfl), (HE.out.drewN _).drewN _⟩
set_option maxRecDepth 100000 in
set_option maxHeartbeats 4000000 in
theorem fb_low (L : LayP) (d : Dec) (hn : 0 < d.nd) (hp : d.dp < -330) : FbC L d (fbO 0 (-1023) d.neg) false := by
  intro wz w b hL hb hE h
  have HE := Sd.mk hE
  have HL := Sd.mk hL
  have f1 := h.n
  have f2 := h.g
  have f3 := h.p
  have m5 := hE.cell hL.exact.m5
  have e5 := hE.cell hL.exact.e5
  have b5 := hE.cell hL.exact.b5
  have q0 : ((d.nd : Int) == 0) = false := by simp; omega
  have q1 : decide (310 < d.dp) = false := decide_eq_false (by omega)
  have q2 : decide (d.dp < -330) = true := decide_eq_true (by omega)
  clear h hE hL hn hp
  go_enter Tryz.func96, Tryz.ntmps96
  go_wp2_with fail
  refine wp_scope_go rfl rfl ?_
  go_wp2_with fail
  go_step3
  refine Or.inl ⟨rfl, ?_⟩
  go_wp2_with fail
  go_quiet (fail)
  cases hg : d.neg
  · go_wp2_with fail
    rw [Exit.noGoto_ret]
    go_ret2
    exact ⟨ret_ub (by rw [hg]; rfl), HE.out.drewN _⟩
  · go_wp2_with fail
    go_quiet (fail)
    go_wp2_with fail
    rw [Exit.noGoto_ret]
    go_ret2
    exact ⟨ret_ub (by rw [hg]; rfl), (HE.out.drewN _).drewN _⟩
set_option maxRecDepth 100000 in
set_option maxHeartbeats 4000000 in
theorem fb_high (L : LayP) (d : Dec) (hn : 0 < d.nd) (hp : 310 < d.dp) : FbC L d (fbO 0 1024 d.neg) true := by
  intro wz w b hL hb hE h
  have HE := Sd.mk hE
  have HL := Sd.mk hL
  have f1 := h.n
  have f2 := h.g
  have f3 := h.p
  have m5 := hE.cell hL.exact.m5
  have e5 := hE.cell hL.exact.e5
  have b5 := hE.cell hL.exact.b5
  have q0 : ((d.nd : Int) == 0) = false := by simp; omega
  have q1 : decide (310 < d.dp) = true := decide_eq_true (by omega)
  clear h hE hL hn hp
  go_enter Tryz.func96, Tryz.ntmps96
  go_wp2_with fail
  refine wp_scope_go rfl rfl ?_
  go_wp2_with fail
  go_step3
  refine Or.inr ⟨rfl, ?_⟩
  go_wp2_with fail
  go_quiet (fail)
  go_wp2_with fail
  go_step3
  go_wp2_with fail
  go_quiet (fail)
  cases hg : d.neg
  · go_wp2_with fail
    rw [Exit.noGoto_ret]
    go_ret2
    exact ⟨ret_ub (by rw [hg]; rfl), HE.out.drewN _⟩
  · go_wp2_with fail
    go_quiet (fail)
    go_wp2_with fail
    rw [Exit.noGoto_ret]
    go_ret2
    exact ⟨ret_ub (by rw [hg]; rfl), (HE.out.drewN _).drewN _⟩

end Go.Proofs.YtcfgjmdfpnfkjaaGreatDoor
