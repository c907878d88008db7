/- Parts of the proof of the statement that this folder hands in: lemmas and contracts (Q). -/
import Derived.Test.YtgkjdgolffnagaaGreatDoorP
set_option linter.unusedSimpArgs false
set_option linter.unusedVariables false
namespace Go.Proofs.YtgkjdgolffnagaaGreatDoor
open Go.RowKit

/-- The two places that are told, or none. -/
def Dup (is : List JV) (j i : Int) : Prop :=
  (j = -1 ∧ i = -1 ∧ ∀ a (ha : a < is.length) b (hb : b < is.length), b < a → ¬ JEq is[a] is[b]) ∨
    ∃ a b : Nat, ∃ (ha : a < is.length) (hb : b < is.length), b < a ∧ JEq is[a] is[b] ∧ j = b ∧ i = a
def DupRes (is : List JV) (e : Ending) : Prop := ∃ j i, e = .returned (.tuple #[.int .i64 j, .int .i64 i, .nilIface]) ∧ Dup is j i

set_option maxHeartbeats 4000000 in
set_option maxRecDepth 100000 in
theorem duplicates_c (is : List JV) (hok : ∀ i (h : i < is.length), (is[i]).Ok) (hcn : ∀ i (h : i < is.length), (is[i]).counts = true) (hl : is.length ≤ 20) (A : Option Addr) (c : Nat) (x : Nat → Value) (N : Nat → Prop) (w : World) (hr : Row w N A is x) :
    Calls Tryz.prog 180 #[.slice A is.length c] w fun e w' => DupRes is e ∧ Ext w w' := by
  have OK := Sd.mk hok
  have CN := Sd.mk hcn
  have HC := Sd.mk hr.1
  have HS := Sd.mk hr.2
  clear hok hcn hr
  have hl' : decide ((is.length : Int) ≤ 20) = true := by simp; omega
  go_enter Tryz.func180, Tryz.ntmps180
  go_wp2_with fail
  go_loopg [5] (is.length + 1) (fun g v5 wr => ∃ a : Nat, v5 = .int .i64 a ∧ 0 < a ∧ g = is.length + 1 - (a - 1) ∧ Sd (∀ i (h : i < is.length) b (hb : b < is.length), i < a → b < i → ¬ JEq is[i] is[b]) ∧ Sd (Ext w wr))
  case atStart => exact ⟨1, rfl, by omega, by omega, ⟨fun i h b hb h1 h2 => absurd h2 (by omega)⟩, ⟨Ext.refl _⟩⟩
  case round =>
    obtain ⟨a, rfl, h0, hg, HA, HE⟩ := hrel
    by_cases ha : a < is.length
    · have ha' : decide ((a : Int) < (is.length : Int)) = true := by simp; omega
      go_wp2_with fail
      go_loopg [6] a (fun g v6 wx => ∃ b : Nat, v6 = .int .i64 b ∧ g + b = a ∧ Sd (∀ p (hp : p < is.length), p < b → ¬ JEq is[a] is[p]) ∧ Sd (Ext w wx))
      case atStart => exact ⟨0, rfl, by omega, ⟨fun p _ h => absurd h (by omega)⟩, HE⟩
      case round =>
        obtain ⟨b, rfl, hgb, HB, HE2⟩ := hrel
        by_cases hb : b < a
        · have hb' : decide ((b : Int) < (a : Int)) = true := by simp; omega
          have hbl : b < is.length := by omega
          obtain ⟨ad, rfl, _, ce⟩ := HC.out a ha
          obtain ⟨ad', e', _, ce'⟩ := HC.out b hbl
          cases e'
          have CE := HE2.out.cell ce
          have CE' := HE2.out.cell ce'
          clear ce ce'
          go_upto_region 8 with (fail)
          go_cut [7, 8] (fun v7 v8 wy => ∃ r, v7 = .bool r ∧ v8 = .nilIface ∧ Sd (r = true ↔ JEq is[a] is[b]) ∧ Sd (Ext w wy))
          case first =>
            go_region_with (go_at_call 143; refine (equals_c _ _ (OK.out a ha) (OK.out b hbl) (CN.out a ha) (CN.out b hbl) _ _ _ _ _ ((HS.out a ha).ext (HE2.out.drewN 1)) ((HS.out b hbl).ext (HE2.out.drewN 1))).mono ?_; rintro e w' ⟨⟨r, rfl, hr⟩, he⟩; have HR := Sd.mk hr; have HE' := Sd.mk ((HE2.out.drewN 1).trans he); clear hr he)
            all_goals (go_wp2_with fail; go_meet; exact ⟨_, rfl, rfl, HR, HE'⟩)
          case rest =>
            obtain ⟨r, rfl, rfl, HR, HE'⟩ := hcut
            clear CE CE'
            cases r
            · have NE := Sd.mk (fun h => absurd (HR.out.2 h) (by simp) : ¬ JEq is[a] is[b])
              clear HR
              go_wp2_with fail
              go_roundg (a - (b + 1))
              case measure => omega
              case rel => exact ⟨b + 1, by go_num, by omega, ⟨fun p hp h2 => if e : p = b then by subst e; exact NE.out else HB.out p hp (by omega)⟩, HE'⟩
            · have HY := Sd.mk (HR.out.1 rfl)
              clear HR
              go_wp2_with fail
              refine bodyPost_ret (v := .tuple #[.int .i64 b, .int .i64 a, .nilIface]) (by simp [results, Tryz.results180, go_sem]) rfl ⟨⟨b, a, rfl, .inr ⟨a, b, ha, hbl, hb, HY.out, rfl, rfl⟩⟩, HE'.out⟩
        · have hb' : decide ((b : Int) < (a : Int)) = false := by simp; omega
          go_wp2_with fail
          go_roundg (is.length + 1 - a)
          case measure => omega
          case rel => exact ⟨a + 1, by go_num, by omega, by omega, ⟨fun i h p hp h1 h2 => if e : i = a then by subst e; exact HB.out p hp (by omega) else HA.out i h p hp (by omega) h2⟩, HE2⟩
    · have ha' : decide ((a : Int) < (is.length : Int)) = false := by simp; omega
      go_wp2_with fail
      refine bodyPost_ret (v := .tuple #[.int .i64 (-1), .int .i64 (-1), .nilIface]) (by simp [results, Tryz.results180, go_sem]) rfl ⟨⟨-1, -1, rfl, .inl ⟨rfl, rfl, fun i h b hb h2 => HA.out i h b hb (by omega) h2⟩⟩, HE.out⟩

end Go.Proofs.YtgkjdgolffnagaaGreatDoor
