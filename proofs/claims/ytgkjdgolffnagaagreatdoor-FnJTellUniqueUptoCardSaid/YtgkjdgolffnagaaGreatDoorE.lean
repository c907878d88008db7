/- Parts of the proof of the statement that this folder hands in: lemmas and contracts (E). -/
import Derived.Test.YtgkjdgolffnagaaGreatDoorD
set_option linter.unusedSimpArgs false
set_option linter.unusedVariables false
namespace Go.Proofs.YtgkjdgolffnagaaGreatDoor
open Go.RowKit

set_option maxHeartbeats 2000000 in
set_option maxRecDepth 100000 in
theorem properIn_c (v : JV) : ∀ (cs : List Value) (m : Nat) (w : World), v.At w cs → m ≤ 1000 →
    Calls Tryz.prog 17 #[.agg cs.toArray, .int .i64 m] w fun e w' => (∃ b, e = .returned (.bool b) ∧ (b = true → v.Ok)) ∧ Ext w w' := by
  induction v using JV.ind with | h k b n t ns is ih
  · intro cs m w h hm
    simp only [JV.At] at h
    obtain ⟨A, c, B, d, rfl, h1, h2, h3, h4⟩ := h
    have ih := Sd.mk ih
    have H1 := Sd.mk h1
    have H3 := Sd.mk h3
    have hl1 := h1.1
    clear h1 h3
    by_cases hm0 : m = 0
    · subst hm0
      go_enter Tryz.func17, Tryz.ntmps17
      go_wp2_with fail
      go_ret
      exact ⟨⟨_, rfl, by simp⟩, (Ext.refl _).alloc _⟩
    · have hm' : ((m : Int) == 0) = false := by simpa using hm0
      go_enter Tryz.func17, Tryz.ntmps17
      go_upto_region 3 with (fail)
      go_cut [52] (fun v52 wx => ∃ b', v52 = .bool b' ∧ (b' = false → 0 ≤ k ∧ k ≤ 5 ∧ (k = 5 → ns.length = is.length)) ∧ Sd (Ext w wx) ∧ Sd (wx.heap[w.heap.size]? = some (.cells #[.int .i64 k, .bool b, .int .i64 n, .string t, .slice A ns.length c, .slice B is.length d] 25 (0, 0))))
      case first =>
        by_cases hk2 : k = 2
        · subst hk2
          go_wp2_with (first
            | (go_at_call 24; ((with_reducible refine (utf8_any _ _ h4).mono ?_); rintro e w' ⟨⟨b', rfl⟩, rfl⟩))
            | (go_at_call 25; ((with_reducible refine (isDecimal_any _ _ h4).mono ?_); rintro e w' ⟨⟨b', rfl⟩, he⟩; have c2 := box_cell (box_ext (box_alloc _ _) he); have HE' := Sd.mk he; clear he)))
          all_goals (go_meet; first
            | exact ⟨_, rfl, by first | (simp; done) | (intro hx; simp at hx; omega) | (simp; omega), ⟨(Ext.refl _).alloc _⟩, ⟨box_alloc _ _⟩⟩
            | exact ⟨_, rfl, by first | (simp; done) | (intro hx; simp at hx; omega) | (simp; omega), ⟨((Ext.refl _).alloc _).trans HE'.out⟩, ⟨box_ext (box_alloc _ _) HE'.out⟩⟩)
        by_cases hk5 : k = 5
        · subst hk5
          go_wp2_with (first
            | (go_at_call 24; ((with_reducible refine (utf8_any _ _ h4).mono ?_); rintro e w' ⟨⟨b', rfl⟩, rfl⟩))
            | (go_at_call 25; ((with_reducible refine (isDecimal_any _ _ h4).mono ?_); rintro e w' ⟨⟨b', rfl⟩, he⟩; have c2 := box_cell (box_ext (box_alloc _ _) he); have HE' := Sd.mk he; clear he)))
          all_goals (go_meet; first
            | exact ⟨_, rfl, by first | (simp; done) | (intro hx; simp at hx; omega) | (simp; omega), ⟨(Ext.refl _).alloc _⟩, ⟨box_alloc _ _⟩⟩
            | exact ⟨_, rfl, by first | (simp; done) | (intro hx; simp at hx; omega) | (simp; omega), ⟨((Ext.refl _).alloc _).trans HE'.out⟩, ⟨box_ext (box_alloc _ _) HE'.out⟩⟩)
        · have hk2' : (k == 2) = false := by simpa using hk2
          have hk5' : (k == 5) = false := by simpa using hk5
          go_wp2_with (first
            | (go_at_call 24; ((with_reducible refine (utf8_any _ _ h4).mono ?_); rintro e w' ⟨⟨b', rfl⟩, rfl⟩))
            | (go_at_call 25; ((with_reducible refine (isDecimal_any _ _ h4).mono ?_); rintro e w' ⟨⟨b', rfl⟩, he⟩; have c2 := box_cell (box_ext (box_alloc _ _) he); have HE' := Sd.mk he; clear he)))
          all_goals (go_meet; first
            | exact ⟨_, rfl, by first | (simp; done) | (intro hx; simp at hx; omega) | (simp; omega), ⟨(Ext.refl _).alloc _⟩, ⟨box_alloc _ _⟩⟩
            | exact ⟨_, rfl, by first | (simp; done) | (intro hx; simp at hx; omega) | (simp; omega), ⟨((Ext.refl _).alloc _).trans HE'.out⟩, ⟨box_ext (box_alloc _ _) HE'.out⟩⟩)
      case rest =>
        obtain ⟨b', rfl, hb', HE, HB⟩ := hcut
        cases b'
        · obtain ⟨k0, k5, kn⟩ := hb' rfl
          have KN := Sd.mk kn
          clear hb' kn
          have c2 := box_cell HB.out
          go_wp2_with fail
          go_loopg [5] ns.length (fun g v5 wr => ∃ j : Nat, v5 = .int .i64 j ∧ g + j = ns.length ∧ wc = wr)
          case atStart => exact ⟨0, rfl, rfl, rfl⟩
          case round =>
            obtain ⟨j, rfl, hg, rfl⟩ := hrel
            by_cases hj : j < ns.length
            · obtain ⟨ad, rfl, e0, hs⟩ := (H1.out.ext HE.out).2 j hj
              go_wp2_with (go_at_call 24; ((with_reducible refine (utf8_any _ _ hs).mono ?_); rintro e w' ⟨⟨b', rfl⟩, rfl⟩))
              · go_ret
                exact ⟨⟨_, rfl, by simp⟩, HE.out⟩
              · go_roundg (ns.length - (j + 1))
                case measure => omega
                case rel => exact ⟨j + 1, by go_num, by omega, rfl⟩
            · go_wp2_with fail
              go_loopg [6] is.length (fun g v6 wr => ∃ j : Nat, v6 = .int .i64 j ∧ g + j = is.length ∧ Sd (∀ i (h : i < is.length), i < j → JV.Ok is[i]) ∧ Sd (Ext w wr) ∧ Sd (wr.heap[w.heap.size]? = some (.cells #[.int .i64 k, .bool b, .int .i64 n, .string t, .slice A ns.length c, .slice B is.length d] 25 (0, 0))))
              case atStart => exact ⟨0, rfl, rfl, ⟨fun i _ h => absurd h (by omega)⟩, HE, HB⟩
              case round =>
                clear c2 HE HB
                obtain ⟨j, rfl, hg, HA, HE, HB⟩ := hrel
                have c2 := box_cell HB.out
                by_cases hj : j < is.length
                · obtain ⟨ad, A', c', D', d', rfl, e0, e1, e2, e3, e4, e5, hAt⟩ := (H3.out.ext HE.out).elem j hj
                  have HAt := Sd.mk hAt; clear hAt
                  go_wp2_with fail
                  have hr := ih.out j hj _ (m - 1) wr HAt.out (by omega)
                  rw [show (((m - 1 : Nat)) : Int) = (m : Int) - 1 by omega] at hr
                  refine hr.mono ?_
                  clear hr
                  rintro e w' ⟨⟨b', rfl, hb'⟩, he⟩
                  have HE' := Sd.mk he
                  have HO := Sd.mk hb'
                  clear he hb'
                  cases b'
                  · go_wp2_with fail
                    go_ret
                    exact ⟨⟨_, rfl, by simp⟩, HE.out.trans HE'.out⟩
                  · have HO' := Sd.mk (HO.out rfl)
                    clear HO
                    go_wp2_with fail
                    go_roundg (is.length - (j + 1))
                    case measure => omega
                    case rel => exact ⟨j + 1, by go_num, by omega, ⟨fun i h h2 => if e : i = j then by subst e; exact HO'.out else HA.out i h (by omega)⟩, ⟨HE.out.trans HE'.out⟩, ⟨box_ext HB.out HE'.out⟩⟩
                · go_wp2_with fail
                  go_ret
                  exact ⟨⟨_, rfl, fun _ => .mk _ _ _ _ _ _ k0 k5 KN.out fun i h => HA.out i h (by omega)⟩, HE.out⟩
        · go_wp2_with fail
          go_ret
          exact ⟨⟨_, rfl, by simp⟩, HE.out⟩

theorem proper_c (v : JV) (cs : List Value) (w : World) (h : v.At w cs) :
    Calls Tryz.prog 11 #[.agg cs.toArray] w fun e w' => (∃ b, e = .returned (.bool b) ∧ (b = true → v.Ok)) ∧ Ext w w' := by
  have h' := h
  obtain ⟨k, b, n, t, ns, is⟩ := v
  simp only [JV.At] at h'
  obtain ⟨A, c, B, d, rfl, h1, h2, h3, h4⟩ := h'
  clear h1 h3
  have H := Sd.mk h
  clear h
  go_enter Tryz.func11, Tryz.ntmps11
  go_wp2_with fail
  refine (properIn_c _ _ 1000 _ (H.out.ext ((Ext.refl w).alloc _)) (Nat.le_refl _)).mono ?_
  rintro e w' ⟨⟨b', rfl, hb⟩, he⟩
  have HE := Sd.mk he
  have HO := Sd.mk hb
  clear he hb
  go_wp2_with fail
  go_ret
  exact ⟨⟨_, rfl, HO.out⟩, ((Ext.refl _).alloc _).trans HE.out⟩

set_option maxHeartbeats 1000000 in
theorem short_ind (v : JV) : ∀ (A : Option Addr) (c : Nat) (w : World), JV.All w A 0 v.items → v.items.length ≤ 1048576 →
    Calls Tryz.prog 6 #[.slice A v.items.length c] w fun e w' => (∃ b, e = .returned (.bool b) ∧ (b = true → ∀ i (h : i < v.items.length), (v.items[i]).Short)) ∧ Ext w w' := by
  induction v using JV.ind with | h k b n t ns is ih
  · intro A c w h hl
    simp only [JV.items] at h hl ⊢
    have ih := Sd.mk ih
    have H3 := Sd.mk h
    clear h
    go_enter Tryz.func6, Tryz.ntmps6
    go_wp2_with fail
    go_loopg [3] is.length (fun g v3 wr => ∃ j : Nat, v3 = .int .i64 j ∧ g + j = is.length ∧ Sd (∀ i (h : i < is.length), i < j → JV.Short is[i]) ∧ Sd (Ext w wr))
    case atStart => exact ⟨0, rfl, rfl, ⟨fun i _ h => absurd h (by omega)⟩, ⟨Ext.refl _⟩⟩
    case round =>
      obtain ⟨j, rfl, hg, HA, HE⟩ := hrel
      by_cases hj : j < is.length
      · obtain ⟨ad, A', c', D', d', xk, xb, xn, xt, xns, xis, rfl, hx, e0, -, -, -, -, e5, -, hxl, hAll, -, -⟩ := (H3.out.ext HE.out).open j hj
        have ihj := Sd.mk (ih.out j hj)
        rw [hx] at ihj
        have HX := Sd.mk hx
        have HAll := Sd.mk hAll
        clear hx hAll
        have fin : ∀ (w' : World) (b' : Bool), Ext wr w' → (xk = 4 → xis.length ≤ 20) → (b' = true → ∀ i (h : i < xis.length), (xis[i]).Short) → b' = true → ∀ i (h : i < is.length), i < j + 1 → JV.Short is[i] := fun w' b' _ h4 hb hb' i h h2 =>
          if e : i = j then by subst e; rw [HX.out]; exact .mk _ _ _ _ _ _ h4 (hb hb') else HA.out i h (by omega)
        have FIN := Sd.mk fin
        clear fin
        by_cases h4 : xk = 4
        · subst h4
          by_cases h20 : (xis.length : Int) > 20
          · go_wp2_with fail
            go_ret
            exact ⟨.inl rfl, HE.out⟩
          · have h20' : decide ((xis.length : Int) > 20) = false := by simpa using h20
            go_wp2_with fail
            refine (ihj.out _ _ _ HAll.out hxl).mono ?_
            rintro e w' ⟨⟨b', rfl, hb'⟩, he⟩
            have F := Sd.mk (FIN.out w' b' he (fun _ => by omega) hb')
            have HE' := Sd.mk he
            clear he hb'
            cases b'
            · go_wp2_with fail
              go_ret
              exact ⟨⟨_, rfl, by simp⟩, HE.out.trans HE'.out⟩
            · go_wp2_with fail
              go_roundg (is.length - (j + 1))
              case measure => omega
              case rel => exact ⟨j + 1, by go_num, by omega, ⟨by first | exact F.out rfl | exact F.out trivial⟩, ⟨HE.out.trans HE'.out⟩⟩
        · have h4' : (xk == 4) = false := by simpa using h4
          go_wp2_with fail
          refine (ihj.out _ _ _ HAll.out hxl).mono ?_
          rintro e w' ⟨⟨b', rfl, hb'⟩, he⟩
          have F := Sd.mk (FIN.out w' b' he (fun h => absurd h h4) hb')
          have HE' := Sd.mk he
          clear he hb'
          cases b'
          · go_wp2_with fail
            go_ret
            exact ⟨⟨_, rfl, by simp⟩, HE.out.trans HE'.out⟩
          · go_wp2_with fail
            go_roundg (is.length - (j + 1))
            case measure => omega
            case rel => exact ⟨j + 1, by go_num, by omega, ⟨by first | exact F.out rfl | exact F.out trivial⟩, ⟨HE.out.trans HE'.out⟩⟩
      · go_wp2_with fail
        go_ret
        exact ⟨⟨_, rfl, fun _ i h => HA.out i h (by omega)⟩, HE.out⟩

theorem short_c (l : List JV) (A : Option Addr) (c : Nat) (w : World) (h : JV.All w A 0 l) (hl : l.length ≤ 1048576) :
    Calls Tryz.prog 6 #[.slice A l.length c] w fun e w' => (∃ b, e = .returned (.bool b) ∧ (b = true → ∀ i (h : i < l.length), (l[i]).Short)) ∧ Ext w w' :=
  short_ind (.mk 0 false 0 ⟨#[]⟩ [] l) A c w h hl

set_option maxHeartbeats 1000000 in
theorem countless_c (is : List JV) (A : Option Addr) (c : Nat) (w : World) (h : JV.All w A 0 is) (hl : is.length ≤ 1048576) :
    Calls Tryz.prog 5 #[.slice A is.length c] w fun e w' => (∃ b, e = .returned (.bool b) ∧ (b = true → ∀ i (h : i < is.length), (is[i]).Ok ∧ (is[i]).counts = true)) ∧ Ext w w' := by
  have H3 := Sd.mk h
  clear h
  go_enter Tryz.func5, Tryz.ntmps5
  go_wp2_with fail
  go_loopg [3] is.length (fun g v3 wr => ∃ j : Nat, v3 = .int .i64 j ∧ g + j = is.length ∧ Sd (∀ i (h : i < is.length), i < j → JV.Ok is[i] ∧ (is[i]).counts = true) ∧ Sd (Ext w wr))
  case atStart => exact ⟨0, rfl, rfl, ⟨fun i _ h => absurd h (by omega)⟩, ⟨Ext.refl _⟩⟩
  case round =>
    obtain ⟨j, rfl, hg, HA, HE⟩ := hrel
    by_cases hj : j < is.length
    · obtain ⟨ad, A', c', D', d', rfl, e0, e1, e2, e3, e4, e5, hAt⟩ := (H3.out.ext HE.out).elem j hj
      have HAt := Sd.mk hAt; clear hAt
      go_wp2_with fail
      refine (proper_c _ _ _ HAt.out).mono ?_
      rintro e w' ⟨⟨b', rfl, hb'⟩, he⟩
      replace e0 := he.cell e0
      replace e1 := he.cell e1
      replace e2 := he.cell e2
      replace e3 := he.cell e3
      replace e4 := he.cell e4
      replace e5 := he.cell e5
      have HE' := Sd.mk he
      have HO := Sd.mk hb'
      clear he hb'
      cases b'
      · go_wp2_with fail
        go_ret
        exact ⟨⟨_, rfl, by simp⟩, HE.out.trans HE'.out⟩
      · go_wp2_with fail
        refine (counts_c _ _ _ (HAt.out.ext HE'.out)).mono ?_
        rintro e w2 ⟨rfl, he⟩
        have HE2 := Sd.mk he
        clear he
        rcases hc : (is[j]).counts
        · go_wp2_with fail
          go_ret
          exact ⟨⟨_, rfl, by simp⟩, (HE.out.trans HE'.out).trans HE2.out⟩
        · go_wp2_with fail
          go_roundg (is.length - (j + 1))
          case measure => omega
          case rel => exact ⟨j + 1, by go_num, by omega, ⟨fun i h h2 => if e : i = j then by subst e; exact ⟨by first | exact HO.out rfl | exact HO.out trivial, hc⟩ else HA.out i h (by omega)⟩, ⟨(HE.out.trans HE'.out).trans HE2.out⟩⟩
    · go_wp2_with fail
      go_ret
      exact ⟨⟨_, rfl, fun _ i h => HA.out i h (by omega)⟩, HE.out⟩

end Go.Proofs.YtgkjdgolffnagaaGreatDoor
