/- Parts of the proof of the statement that this folder hands in: lemmas and contracts (J, Ka). -/
import Derived.Test.YtgkjdgolffnagaaGreatDoorI
set_option linter.unusedSimpArgs false
set_option linter.unusedVariables false
namespace Go.Proofs.YtgkjdgolffnagaaGreatDoor
open Go.RowKit

theorem jeq_kind {k b n t ns is k' b' n' t' ns' is'} (h : JEq (.mk k b n t ns is) (.mk k' b' n' t' ns' is')) : k = k' := by cases h; assumption
theorem countsAll_get : ∀ {l : List JV}, JV.countsAll l = true → ∀ i (h : i < l.length), (l[i]).counts = true
  | x :: r, hc, 0, _ => by simp only [JV.countsAll] at hc; split at hc <;> simp_all
  | x :: r, hc, i + 1, h => by
    simp only [JV.countsAll] at hc
    split at hc
    · exact countsAll_get hc i (by simpa using h)
    · cases hc
theorem counts_mk {k b n t ns is} (h : (JV.mk k b n t ns is).counts = true) : k ≠ 2 ∧ ∀ i (h : i < is.length), (is[i]).counts = true := by
  simp only [JV.counts] at h
  by_cases hk : k = 2
  · simp [hk] at h
  · rw [if_neg hk] at h; exact ⟨hk, countsAll_get h⟩

set_option maxHeartbeats 4000000 in
set_option maxRecDepth 100000 in
theorem jequals_c (a : JV) : ∀ b : JV, a.Ok → b.Ok → a.counts = true → b.counts = true → EqC a b := by
  induction a using JV.ind with | h k b n t ns is ih
  · intro y oa ob ca cb cs cs' w ha hb
    obtain ⟨k', b', n', t', ns', is'⟩ := y
    simp only [JV.At] at ha hb
    obtain ⟨A, c, B, d, rfl, h1, h2, h3, h4⟩ := ha
    obtain ⟨A', c', B', d', rfl, h1', h2', h3', h4'⟩ := hb
    obtain ⟨hk2, cas⟩ := counts_mk ca
    obtain ⟨hk2', cbs⟩ := counts_mk cb
    have IH : Sd (∀ i (h : i < is.length) q (h' : q < is'.length), EqC is[i] is'[q]) := by
      cases oa with | mk _ _ _ _ _ _ _ _ _ ao
      cases ob with | mk _ _ _ _ _ _ _ _ _ bo
      exact ⟨fun i h q h' => ih i h _ (ao i h) (bo q h') (cas i h) (cbs q h')⟩
    have OA : Sd (k = 5 → ns.length = is.length) := by cases oa; exact ⟨by assumption⟩
    have OB : Sd (k' = 5 → ns'.length = is'.length) := by cases ob; exact ⟨by assumption⟩
    have H1 := Sd.mk h1
    have H3 := Sd.mk h3
    have H1' := Sd.mk h1'
    have H3' := Sd.mk h3'
    clear h1 h3 h1' h3' ih oa ob ca cb cas cbs hk2'
    by_cases hkk : k = k'
    · subst hkk
      have e2 : (k == 2) = false := by simpa using hk2
      by_cases k1 : k = 1
      · subst k1
        go_enter Tryz.func60, Tryz.ntmps60
        go_wp2_with fail
        go_ret
        exact ⟨⟨_, rfl, by simp; exact ⟨fun e => .mk _ _ _ _ _ _ _ _ _ _ _ _ rfl (fun _ => e) (by simp) (by simp) (by simp) (by simp) (by simp) (by simp), fun h => by cases h with | mk _ _ _ _ _ _ _ _ _ _ _ _ _ h2 => exact h2 rfl⟩⟩, ((Ext.refl _).alloc _).alloc _⟩
      · have e1 : (k == 1) = false := by simpa using k1
        by_cases k3 : k = 3
        · subst k3
          go_enter Tryz.func60, Tryz.ntmps60
          go_wp2_with fail
          go_ret
          exact ⟨⟨_, rfl, by rw [cmp_bool, decide_eq_true_iff]; exact ⟨fun e => .mk _ _ _ _ _ _ _ _ _ _ _ _ rfl (by simp) (fun _ => e) (by simp) (by simp) (by simp) (by simp) (by simp), fun h => by cases h with | mk _ _ _ _ _ _ _ _ _ _ _ _ _ _ h2 => exact h2 rfl⟩⟩, ((Ext.refl _).alloc _).alloc _⟩
        · have e3 : (k == 3) = false := by simpa using k3
          by_cases k4 : k = 4
          · subst k4
            by_cases hlen : is.length = is'.length
            · have hl' : ((is.length : Int) != (is'.length : Int)) = false := by simp [hlen]
              have HL := Sd.mk hlen
              clear hlen
              go_enter Tryz.func60, Tryz.ntmps60
              go_wp2_with fail
              go_loopg [5] is.length (fun g v5 wr => ∃ j : Nat, v5 = .int .i64 j ∧ g + j = is.length ∧ Sd (∀ i (h : i < is.length) (h' : i < is'.length), i < j → JEq is[i] is'[i]) ∧ Sd (Ext w wr) ∧
                Sd (wr.heap[w.heap.size]? = some (.cells #[.int .i64 4, .bool b, .int .i64 n, .string t, .slice A ns.length c, .slice B is.length d] 25 (0, 0))) ∧
                Sd (wr.heap[w.heap.size + 1]? = some (.cells #[.int .i64 4, .bool b', .int .i64 n', .string t', .slice A' ns'.length c', .slice B' is'.length d'] 25 (0, 0))))
              case atStart => exact ⟨0, rfl, rfl, ⟨fun i _ _ h => absurd h (by omega)⟩, ⟨((Ext.refl _).alloc _).alloc _⟩, ⟨box_keep (box_alloc _ _) _⟩, ⟨box_alloc2 _ _ _⟩⟩
              case round =>
                obtain ⟨j, rfl, hg, HA, HE, HB, HB'⟩ := hrel
                have f1 := box_cell HB.out
                have f2 := box_cell HB'.out
                by_cases hj : j < is.length
                · have hj' : j < is'.length := by have := HL.out; omega
                  obtain ⟨ai, Ai, ci, Di, di, rfl, x0, x1, x2, x3, x4, x5, hAt⟩ := (H3.out.ext HE.out).elem j hj
                  obtain ⟨ai', Ai', ci', Di', di', rfl, y0, y1, y2, y3, y4, y5, hAt'⟩ := (H3'.out.ext HE.out).elem j hj'
                  have HAt := Sd.mk hAt
                  have HAt' := Sd.mk hAt'
                  clear hAt hAt'
                  go_upto_region 16 with (fail)
                  go_cut [62] (fun v62 wx => ∃ r, v62 = .bool (!r) ∧ Sd (r = true ↔ JEq is[j] is'[j]) ∧ Sd (Ext wr wx))
                  case first =>
                    go_still_tail 10, (by kernel_rfl)
                    change wpList _ _ _ _ _ wr.drew
                    go_wp2_with (go_at_call 60; refine (IH.out j hj j hj' _ _ _ (HAt.out.ext (Ext.drewN (Ext.refl _) 1)) (HAt'.out.ext (Ext.drewN (Ext.refl _) 1))).mono ?_; rintro e w' ⟨⟨r, rfl, hr⟩, he⟩; have HE2 := Sd.mk he; have HR := Sd.mk hr; clear he hr)
                    go_meet
                    exact ⟨_, rfl, HR, ⟨(Ext.drewN (Ext.refl _) 1).trans HE2.out⟩⟩
                  case rest =>
                    obtain ⟨r, rfl, HR, HE2⟩ := hcut
                    clear f1 f2 x0 x1 x2 x3 x4 x5 y0 y1 y2 y3 y4 y5
                    cases r
                    · have NE := Sd.mk (fun h => absurd (HR.out.2 h) (by simp) : ¬ JEq is[j] is'[j])
                      clear HR
                      go_wp2_with fail
                      go_ret
                      exact ⟨⟨false, rfl, by simp; intro h; cases h with | mk _ _ _ _ _ _ _ _ _ _ _ _ _ _ _ _ h5 => exact NE.out (h5 rfl j hj hj')⟩, HE.out.trans HE2.out⟩
                    · have HY := Sd.mk (HR.out.1 rfl)
                      clear HR
                      go_wp2_with fail
                      go_roundg (is.length - (j + 1))
                      case measure => omega
                      case rel => exact ⟨j + 1, by go_num, by omega, ⟨fun i h h' h2 => if e : i = j then by subst e; exact HY.out else HA.out i h h' (by omega)⟩, ⟨HE.out.trans HE2.out⟩, ⟨box_ext HB.out HE2.out⟩, ⟨box_ext HB'.out HE2.out⟩⟩
                · go_wp2_with fail
                  go_ret
                  exact ⟨⟨true, rfl, by simp; exact .mk _ _ _ _ _ _ _ _ _ _ _ _ rfl (by simp) (by simp) (fun _ => HL.out) (fun _ i h h' => HA.out i h h' (by omega)) (by simp) (by simp) (by simp)⟩, HE.out⟩
            · have hl' : ((is.length : Int) != (is'.length : Int)) = true := by simp; omega
              go_enter Tryz.func60, Tryz.ntmps60
              go_wp2_with fail
              go_ret
              exact ⟨⟨false, rfl, by simp; intro h; cases h with | mk _ _ _ _ _ _ _ _ _ _ _ _ _ _ _ h4 => exact hlen (h4 rfl)⟩, ((Ext.refl _).alloc _).alloc _⟩
          · have e4 : (k == 4) = false := by simpa using k4
            by_cases k5 : k = 5
            · subst k5
              have OA' := Sd.mk (OA.out rfl)
              have OB' := Sd.mk (OB.out rfl)
              clear OA OB
              go_enter Tryz.func60, Tryz.ntmps60
              go_wp2_with fail
              refine (has_c _ _ _ _ _ _ _ _ _ _ _ _ _ _ _ _ _ _ _ _ _ (H1.out.ext (((Ext.refl w).alloc _).alloc _)) (H1'.out.ext (((Ext.refl w).alloc _).alloc _))).mono ?_
              rintro e w1 ⟨⟨r1, rfl, hr1⟩, he⟩
              have HR1 := Sd.mk hr1
              have HE := Sd.mk ((((Ext.refl w).alloc _).alloc _).trans he)
              have HB := Sd.mk (box_ext (box_keep (box_alloc w _) _) he)
              have HB' := Sd.mk (box_ext (box_alloc2 w _ _) he)
              have f1 := box_cell HB.out
              have f2 := box_cell HB'.out
              clear he hr1
              cases r1
              · have NN := Sd.mk (fun h => absurd (HR1.out.2 h) (by simp) : ¬ ∀ x ∈ ns, x ∈ ns')
                clear HR1
                go_wp2_with fail
                go_ret
                exact ⟨⟨false, rfl, by simp; intro h; cases h with | mk _ _ _ _ _ _ _ _ _ _ _ _ _ _ _ _ _ h6 => exact NN.out (h6 rfl)⟩, HE.out⟩
              · have HH1 := Sd.mk (HR1.out.1 rfl)
                clear HR1
                go_wp2_with fail
                refine (has_c _ _ _ _ _ _ _ _ _ _ _ _ _ _ _ _ _ _ _ _ _ (H1'.out.ext HE.out) (H1.out.ext HE.out)).mono ?_
                rintro e w2 ⟨⟨r2, rfl, hr2⟩, he⟩
                have HR2 := Sd.mk hr2
                have HE2 := Sd.mk (HE.out.trans he)
                replace f1 := box_cell (box_ext HB.out he)
                replace f2 := box_cell (box_ext HB'.out he)
                clear he hr2
                cases r2
                · have NN := Sd.mk (fun h => absurd (HR2.out.2 h) (by simp) : ¬ ∀ x ∈ ns', x ∈ ns)
                  clear HR2
                  go_wp2_with fail
                  go_ret
                  exact ⟨⟨false, rfl, by simp; intro h; cases h with | mk _ _ _ _ _ _ _ _ _ _ _ _ _ _ _ _ _ _ h7 => exact NN.out (h7 rfl)⟩, HE2.out⟩
                · have HH2 := Sd.mk (HR2.out.1 rfl)
                  clear HR2
                  go_wp2_with fail
                  refine (within_c _ _ _ _ _ _ _ _ _ _ _ _ _ _ _ _ _ _ _ _ _ (H1.out.ext HE2.out) (H1'.out.ext HE2.out) (H3.out.ext HE2.out) (H3'.out.ext HE2.out) (OA'.out) (OB'.out) IH.out).mono ?_
                  rintro e w3 ⟨⟨r3, rfl, hr3⟩, he⟩
                  have HE3 := Sd.mk (HE2.out.trans he)
                  have HR3 := Sd.mk hr3
                  clear he hr3 f1 f2
                  go_wp2_with fail
                  go_ret
                  refine ⟨⟨r3, rfl, HR3.out.trans ⟨fun hw => .mk _ _ _ _ _ _ _ _ _ _ _ _ rfl (by simp) (by simp) (by simp) (by simp) (fun _ => HH1.out) (fun _ => HH2.out) fun _ i hi hm q hq hmq => ?_, fun h i hi hm => ?_⟩⟩, HE3.out⟩
                  · obtain ⟨q', hq', hm', he'⟩ := hw i hi hm
                    rw [hm'] at hmq
                    cases hmq
                    exact he'
                  · have hin : ns.getD i ⟨#[]⟩ ∈ ns' := by
                      have hil : i < ns.length := by rw [OA'.out]; exact hi
                      rw [getD_of hil]
                      exact HH1.out _ (List.getElem_mem hil)
                    cases hm' : mem ns' (ns.getD i ⟨#[]⟩) with
                    | none => exact absurd hin (mem_none'.1 hm')
                    | some q =>
                      have hq : q < is'.length := by rw [← OB'.out]; exact (mem_some.1 hm').1
                      cases h with | mk _ _ _ _ _ _ _ _ _ _ _ _ _ _ _ _ _ _ _ h8 => exact ⟨q, hq, rfl, h8 rfl i hi hm q hq hm'⟩
            · have e5 : (k == 5) = false := by simpa using k5
              go_enter Tryz.func60, Tryz.ntmps60
              go_wp2_with fail
              go_ret
              exact ⟨⟨true, rfl, by simp; exact .mk _ _ _ _ _ _ _ _ _ _ _ _ rfl (fun e => absurd e k1) (fun e => absurd e k3) (fun e => absurd e k4) (fun e => absurd e k4) (fun e => absurd e k5) (fun e => absurd e k5) (fun e => absurd e k5)⟩, ((Ext.refl _).alloc _).alloc _⟩
    · have hk' : (k != k') = true := by simpa using hkk
      go_enter Tryz.func60, Tryz.ntmps60
      go_wp2_with fail
      go_ret
      exact ⟨⟨false, rfl, by simp; exact fun h => hkk (jeq_kind h)⟩, ((Ext.refl _).alloc _).alloc _⟩

end Go.Proofs.YtgkjdgolffnagaaGreatDoor
set_option linter.unusedVariables false
namespace Go.Proofs.YtgkjdgolffnagaaGreatDoor
open Go.RowKit

/-- Two elements of a list are equal. -/
def Twins (is : List JV) : Prop := ∃ a b : Nat, ∃ (ha : a < is.length) (hb : b < is.length), b < a ∧ JEq is[a] is[b]

def TwinRes (is : List JV) (e : Ending) : Prop := ∃ x y : Int, e = .returned (.tuple #[.int .i64 x, .int .i64 y]) ∧ (0 ≤ x ↔ Twins is)

set_option maxHeartbeats 1000000 in
set_option maxRecDepth 100000 in
theorem jtwins_c (is : List JV) (hok : ∀ i (h : i < is.length), (is[i]).Ok) (hcn : ∀ i (h : i < is.length), (is[i]).counts = true) (B : Option Addr) (c : Nat) (w : World) (hl : is.length ≤ 1048576) (h : JV.All w B 0 is) :
    Calls Tryz.prog 70 #[.slice B is.length c] w fun e w' => TwinRes is e ∧ Ext w w' := by
  have OK := Sd.mk hok
  have CN := Sd.mk hcn
  have H := Sd.mk h
  clear hok hcn h
  go_enter Tryz.func70, Tryz.ntmps70
  go_wp2_with fail
  go_loopg [4] (is.length + 1) (fun g v4 wr => ∃ a : Nat, v4 = .int .i64 a ∧ 0 < a ∧ g = is.length + 1 - (a - 1) ∧ Sd (∀ i (h : i < is.length) b (hb : b < is.length), i < a → b < i → ¬ JEq is[i] is[b]) ∧ Sd (Ext w wr))
  case atStart => exact ⟨1, rfl, by omega, by omega, ⟨fun i h b hb h1 h2 => absurd h2 (by omega)⟩, ⟨Ext.refl _⟩⟩
  case round =>
    obtain ⟨a, rfl, h0, hg, HA, HE⟩ := hrel
    by_cases ha : a < is.length
    · have ha' : decide ((a : Int) < (is.length : Int)) = true := by simp; omega
      go_wp2_with fail
      go_loopg [5] a (fun g v5 wx => ∃ b : Nat, v5 = .int .i64 b ∧ g + b = a ∧ Sd (∀ p (hp : p < is.length), p < b → ¬ JEq is[a] is[p]) ∧ Sd (Ext w wx))
      case atStart => exact ⟨0, rfl, by omega, ⟨fun p _ h => absurd h (by omega)⟩, HE⟩
      case round =>
        obtain ⟨b, rfl, hgb, HB, HE2⟩ := hrel
        by_cases hb : b < a
        · have hb' : decide ((b : Int) < (a : Int)) = true := by simp; omega
          have hbl : b < is.length := by omega
          obtain ⟨ai, Ai, ci, Di, di, rfl, x0, x1, x2, x3, x4, x5, hAt⟩ := (H.out.ext HE2.out).elem b hbl
          obtain ⟨ai', Ai', ci', Di', di', e', y0, y1, y2, y3, y4, y5, hAt'⟩ := (H.out.ext HE2.out).elem a ha
          cases e'
          have HAt := Sd.mk hAt
          have HAt' := Sd.mk hAt'
          clear hAt hAt'
          go_upto_region 7 with (fail)
          go_cut [25] (fun v25 wy => ∃ r, v25 = .bool r ∧ Sd (r = true ↔ JEq is[b] is[a]) ∧ Sd (Ext w wy))
          case first =>
            go_still_tail 8, (by kernel_rfl)
            change wpList _ _ _ _ _ (World.drew _)
            go_wp2_with (go_at_call 60; refine (jequals_c _ _ (OK.out b hbl) (OK.out a ha) (CN.out b hbl) (CN.out a ha) _ _ _ (HAt.out.ext (Ext.drewN (Ext.refl _) 1)) (HAt'.out.ext (Ext.drewN (Ext.refl _) 1))).mono ?_; rintro e w' ⟨⟨r, rfl, hr⟩, he⟩; have HEE := Sd.mk (HE2.out.trans ((Ext.drewN (Ext.refl _) 1).trans he)); have HR := Sd.mk hr; clear he hr)
            go_meet
            exact ⟨_, rfl, HR, HEE⟩
          case rest =>
            obtain ⟨r, rfl, HR, HEE⟩ := hcut
            clear x0 x1 x2 x3 x4 x5 y0 y1 y2 y3 y4 y5
            cases r
            · have NE := Sd.mk (fun h => absurd (HR.out.2 (JEq.symm _ _ (OK.out a ha) (OK.out b hbl) h)) (by simp) : ¬ JEq is[a] is[b])
              clear HR
              go_wp2_with fail
              go_roundg (a - (b + 1))
              case measure => omega
              case rel => exact ⟨b + 1, by go_num, by omega, ⟨fun p hp h2 => if e : p = b then by subst e; exact NE.out else HB.out p hp (by omega)⟩, HEE⟩
            · have HY := Sd.mk (JEq.symm _ _ (OK.out b hbl) (OK.out a ha) (HR.out.1 rfl))
              clear HR
              go_wp2_with fail
              go_ret2
              exact ⟨⟨b, a, rfl, by simp; exact ⟨a, b, ha, hbl, hb, HY.out⟩⟩, HEE.out⟩
        · have hb' : decide ((b : Int) < (a : Int)) = false := by simp; omega
          go_wp2_with fail
          go_roundg (is.length + 1 - a)
          case measure => omega
          case rel => exact ⟨a + 1, by go_num, by omega, by omega, ⟨fun i h p hp h1 h2 => if e : i = a then by subst e; exact HB.out p hp (by omega) else HA.out i h p hp (by omega) h2⟩, HE2⟩
    · have ha' : decide ((a : Int) < (is.length : Int)) = false := by simp; omega
      go_wp2_with fail
      go_ret2
      exact ⟨⟨-1, -1, rfl, by simp; rintro ⟨i, p, hi, hp, h1, h2⟩; exact HA.out i hi p hp (by omega) h1 h2⟩, HE.out⟩

end Go.Proofs.YtgkjdgolffnagaaGreatDoor
