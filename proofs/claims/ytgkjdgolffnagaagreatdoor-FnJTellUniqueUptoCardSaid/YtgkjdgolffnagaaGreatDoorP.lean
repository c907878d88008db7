/- Parts of the proof of the statement that this folder hands in: lemmas and contracts (P). -/
import Derived.Test.YtgkjdgolffnagaaGreatDoorNMg
set_option linter.unusedSimpArgs false
set_option linter.unusedVariables false
namespace Go.Proofs.YtgkjdgolffnagaaGreatDoor
open Go.RowKit
open Go.ChangeMaps (setBlock)

set_option maxHeartbeats 4000000 in
set_option maxRecDepth 100000 in
theorem equals_c (a : JV) : ∀ b : JV, a.Ok → b.Ok → a.counts = true → b.counts = true → EqA a b := by
  induction a using JV.ind with | h k b n t ns is ih
  intro v oa ob ca cb x y w N N' ha hb
  obtain ⟨k', b', n', t', ns', is'⟩ := v
  have NK := Sd.mk (fun h => jeq_kind h : JEq (.mk k b n t ns is) (.mk k' b' n' t' ns' is') → k = k')
  obtain ⟨hk2, cas⟩ := counts_mk ca
  obtain ⟨hk2', cbs⟩ := counts_mk cb
  have IH : Sd (∀ i (h : i < is.length) q (h' : q < is'.length), EqA is[i] is'[q]) := by
    cases oa with | mk _ _ _ _ _ _ _ _ _ ao
    cases ob with | mk _ _ _ _ _ _ _ _ _ bo
    exact ⟨fun i h q h' => ih i h _ (ao i h) (bo q h') (cas i h) (cbs q h')⟩
  have KA : Sd (0 ≤ k ∧ k ≤ 5) := by cases oa; exact ⟨by assumption, by assumption⟩
  have KB : Sd (0 ≤ k' ∧ k' ≤ 5) := by cases ob; exact ⟨by assumption, by assumption⟩
  have OA : Sd (k = 5 → ns.length = is.length) := by cases oa; exact ⟨by assumption⟩
  have OB : Sd (k' = 5 → ns'.length = is'.length) := by cases ob; exact ⟨by assumption⟩
  clear ih oa ob ca cb cas cbs hk2 hk2'
  have a1 := y108; have a2 := y112; have a3 := y4; have a4 := y9
  have b1 := fun v w => n108 112 v w (by decide); have b2 := fun v w => n108 4 v w (by decide); have b3 := fun v w => n108 9 v w (by decide)
  have b4 := fun v w => n112 108 v w (by decide); have b5 := fun v w => n112 4 v w (by decide); have b6 := fun v w => n112 9 v w (by decide)
  have b7 := fun v w => n4 108 v w (by decide); have b8 := fun v w => n4 112 v w (by decide); have b9 := fun v w => n4 9 v w (by decide)
  have b10 := fun v w => n9 108 v w (by decide); have b11 := fun v w => n9 112 v w (by decide); have b12 := fun v w => n9 4 v w (by decide)
  have d1 := l108; have d2 := l112; have d3 := l4; have d4 := l9
  cases ha
  case nul q1 q2 q3 q4 q5 =>
    have Q := Sd.mk (And.intro q1 (And.intro q2 (And.intro q3 (And.intro q4 q5))))
    clear q1 q2 q3 q4 q5
    cases hb
    case nul r1 r2 r3 r4 r5 =>
      have e : k = 0 := by have := KA.out; have := Q.out; omega
      have e' : k' = 0 := by have := KB.out; omega
      clear r1 r2 r3 r4 r5
      subst e e'
      go_enter Tryz.func143, Tryz.ntmps143
      go_wp2_with fail
      go_ret2
      exact ⟨⟨true, rfl, by simp; exact .mk _ _ _ _ _ _ _ _ _ _ _ _ rfl (by simp) (by simp) (by simp) (by simp) (by simp) (by simp) (by simp)⟩, Ext.refl _⟩
    all_goals
      go_enter Tryz.func143, Tryz.ntmps143
      go_wp2_with fail
      go_ret2
      exact ⟨⟨false, rfl, by simp; intro h; have := NK.out h; have := Q.out; omega⟩, Ext.refl _⟩
  case bool q1 =>
    cases hb
    case bool r1 =>
      subst q1 r1
      go_enter Tryz.func143, Tryz.ntmps143
      go_wp2_with fail
      go_ret2
      exact ⟨⟨_, rfl, by simp; exact ⟨fun e => .mk _ _ _ _ _ _ _ _ _ _ _ _ rfl (fun _ => e) (by simp) (by simp) (by simp) (by simp) (by simp) (by simp), fun h => by cases h with | mk _ _ _ _ _ _ _ _ _ _ _ _ _ h2 => exact h2 rfl⟩⟩, Ext.refl _⟩
    all_goals
      go_enter Tryz.func143, Tryz.ntmps143
      go_wp2_with fail
      go_ret2
      exact ⟨⟨false, rfl, by simp; intro h; have := NK.out h; omega⟩, Ext.refl _⟩
  case text q1 _ =>
    cases hb
    case text r1 _ =>
      subst q1 r1
      go_enter Tryz.func143, Tryz.ntmps143
      go_wp2_with fail
      go_ret2
      exact ⟨⟨_, rfl, by rw [cmp_bool, decide_eq_true_iff]; exact ⟨fun e => .mk _ _ _ _ _ _ _ _ _ _ _ _ rfl (by simp) (fun _ => e) (by simp) (by simp) (by simp) (by simp) (by simp), fun h => by cases h with | mk _ _ _ _ _ _ _ _ _ _ _ _ _ _ h2 => exact h2 rfl⟩⟩, Ext.refl _⟩
    all_goals
      go_enter Tryz.func143, Tryz.ntmps143
      go_wp2_with fail
      go_ret2
      exact ⟨⟨false, rfl, by simp; intro h; have := NK.out h; omega⟩, Ext.refl _⟩
  case list A c xs q1 hl hc he =>
    have HC := Sd.mk hc
    have HS := Sd.mk he
    clear hc he
    cases hb
    case list A' c' xs' r1 hl' hc' he' =>
      have HC' := Sd.mk hc'
      have HS' := Sd.mk he'
      clear hc' he'
      subst q1 r1
      by_cases hlen : is.length = is'.length
      · have hl2 : ((is.length : Int) != (is'.length : Int)) = false := by simp [hlen]
        have HL := Sd.mk hlen
        clear hlen
        go_enter Tryz.func143, Tryz.ntmps143
        go_wp2_with fail
        go_loopg [99] is.length (fun g v99 wr => ∃ j : Nat, v99 = .int .i64 j ∧ g + j = is.length ∧ Sd (∀ i (h : i < is.length) (h' : i < is'.length), i < j → JEq is[i] is'[i]) ∧ Sd (Ext w wr))
        case atStart => exact ⟨0, rfl, rfl, ⟨fun i _ _ h => absurd h (by omega)⟩, ⟨Ext.refl _⟩⟩
        case round =>
          obtain ⟨j, rfl, hg, HA, HE⟩ := hrel
          by_cases hj : j < is.length
          · have hj' : j < is'.length := by have := HL.out; omega
            obtain ⟨ad, rfl, _, ce⟩ := HC.out j hj
            obtain ⟨ad', rfl, _, ce'⟩ := HC'.out j hj'
            have CE := HE.out.cell ce
            have CE' := HE.out.cell ce'
            clear ce ce'
            go_upto_region 27 with (fail)
            go_cut [19, 20] (fun v19 v20 wx => ∃ r, v19 = .bool r ∧ v20 = .nilIface ∧ Sd (r = true ↔ JEq is[j] is'[j]) ∧ Sd (Ext wr wx))
            case first =>
              go_region_with (go_at_call 143; refine (IH.out j hj j hj' _ _ _ _ _ ((HS.out j hj).ext (HE.out.drewN 1)) ((HS'.out j hj').ext (HE.out.drewN 1))).mono ?_; rintro e w' ⟨⟨r, rfl, hr⟩, he⟩; have HR := Sd.mk hr; have HE' := Sd.mk he; clear hr he)
              all_goals (go_wp2_with fail; go_meet; exact ⟨_, rfl, rfl, HR, ⟨(Ext.drewN (Ext.refl _) 1).trans HE'.out⟩⟩)
            case rest =>
              obtain ⟨r, rfl, rfl, HR, HE'⟩ := hcut
              clear CE CE'
              cases r
              · have NE := Sd.mk (fun h => absurd (HR.out.2 h) (by simp) : ¬ JEq is[j] is'[j])
                clear HR
                go_wp2_with fail
                go_ret2
                exact ⟨⟨false, rfl, by simp; intro h; cases h with | mk _ _ _ _ _ _ _ _ _ _ _ _ _ _ _ _ h5 => exact NE.out (h5 rfl j hj hj')⟩, HE.out.trans HE'.out⟩
              · have HY := Sd.mk (HR.out.1 rfl)
                clear HR
                go_wp2_with fail
                go_roundg (is.length - (j + 1))
                case measure => omega
                case rel => exact ⟨j + 1, by go_num, by omega, ⟨fun i h h' h2 => if e : i = j then by subst e; exact HY.out else HA.out i h h' (by omega)⟩, ⟨HE.out.trans HE'.out⟩⟩
          · go_wp2_with fail
            go_ret2
            exact ⟨⟨true, rfl, by simp; exact .mk _ _ _ _ _ _ _ _ _ _ _ _ rfl (by simp) (by simp) (fun _ => HL.out) (fun _ i h h' => HA.out i h h' (by omega)) (by simp) (by simp) (by simp)⟩, HE.out⟩
      · have hl2 : ((is.length : Int) != (is'.length : Int)) = true := by simp; omega
        go_enter Tryz.func143, Tryz.ntmps143
        go_wp2_with fail
        go_ret2
        exact ⟨⟨false, rfl, by simp; intro h; cases h with | mk _ _ _ _ _ _ _ _ _ _ _ _ _ _ _ h4 => exact hlen (h4 rfl)⟩, Ext.refl _⟩
    case nul r1 r2 r3 r4 r5 =>
      have Q := Sd.mk (And.intro r1 (And.intro r2 (And.intro r3 (And.intro r4 r5))))
      clear r1 r2 r3 r4 r5
      go_enter Tryz.func143, Tryz.ntmps143
      go_wp2_with fail
      go_ret2
      exact ⟨⟨false, rfl, by simp; intro h; have := NK.out h; have := Q.out; omega⟩, Ext.refl _⟩
    case obj r es clock q hN hb F r1 hn hx hk =>
      clear hb hk hx hn
      go_enter Tryz.func143, Tryz.ntmps143
      go_wp2_with fail
      go_ret2
      exact ⟨⟨false, rfl, by simp; intro h; have := NK.out h; omega⟩, Ext.refl _⟩
    all_goals
      go_enter Tryz.func143, Tryz.ntmps143
      go_wp2_with fail
      go_ret2
      exact ⟨⟨false, rfl, by simp; intro h; have := NK.out h; omega⟩, Ext.refl _⟩
  case obj r es clock q hN hm F q1 hn hx hk =>
    have O := Sd.mk (ObjOf.mk F hk hn)
    have HM := Sd.mk hm
    have HX := Sd.mk hx
    clear hm hk hx hn
    cases hb
    case obj r' es' clock' q' hN' hm' F' r1 hn' hx' hk' =>
      have O' := Sd.mk (ObjOf.mk F' hk' hn')
      have HM' := Sd.mk hm'
      have HX' := Sd.mk hx'
      clear hm' hk' hx' hn'
      subst q1 r1
      exact equals_obj r r' w IH.out O.out O'.out HM.out HM'.out HX.out HX'.out
    case nul r1 r2 r3 r4 r5 =>
      have Q := Sd.mk (And.intro r1 (And.intro r2 (And.intro r3 (And.intro r4 r5))))
      clear r1 r2 r3 r4 r5
      go_enter Tryz.func143, Tryz.ntmps143
      go_wp2_with fail
      go_ret2
      exact ⟨⟨false, rfl, by simp; intro h; have := NK.out h; have := Q.out; omega⟩, Ext.refl _⟩
    all_goals
      go_enter Tryz.func143, Tryz.ntmps143
      go_wp2_with fail
      go_ret2
      exact ⟨⟨false, rfl, by simp; intro h; have := NK.out h; omega⟩, Ext.refl _⟩

end Go.Proofs.YtgkjdgolffnagaaGreatDoor
