/- Parts of the proof of the statement that this folder hands in: lemmas and contracts (I). -/
import Derived.Test.YtgkjdgolffnagaaGreatDoorH
set_option linter.unusedSimpArgs false
set_option linter.unusedVariables false
namespace Go.Proofs.YtgkjdgolffnagaaGreatDoor
open Go.RowKit

def With (ns : List ByteArray) (is : List JV) (ns' : List ByteArray) (is' : List JV) : Prop :=
  ∀ i (h : i < is.length), mem ns (ns.getD i ⟨#[]⟩) = some i → ∃ q, ∃ (hq : q < is'.length), mem ns' (ns.getD i ⟨#[]⟩) = some q ∧ JEq is[i] is'[q]

/-- The contract of JEquals at one pair. -/
def EqC (x y : JV) : Prop := ∀ cs cs' w, x.At w cs → y.At w cs' → Calls Tryz.prog 60 #[.agg cs.toArray, .agg cs'.toArray] w fun e w' => RetIff (JEq x y) e ∧ Ext w w'

theorem memI_some {ns : List ByteArray} {nm : ByteArray} {q : Nat} (h : mem ns nm = some q) : memI ns nm = q := by simp [memI, h]
theorem memI_none {ns : List ByteArray} {nm : ByteArray} (h : mem ns nm = none) : memI ns nm = -1 := by simp [memI, h]

set_option maxHeartbeats 2000000 in
set_option maxRecDepth 100000 in
theorem within_c (k : Int) (b : Bool) (n : Int) (t : ByteArray) (A : Option Addr) (c : Nat) (ns : List ByteArray) (B : Option Addr) (d : Nat) (is : List JV)
    (k' : Int) (b' : Bool) (n' : Int) (t' : ByteArray) (A' : Option Addr) (c' : Nat) (ns' : List ByteArray) (B' : Option Addr) (d' : Nat) (is' : List JV) (w : World)
    (h : Strs w A ns) (h' : Strs w A' ns') (hB : JV.All w B 0 is) (hB' : JV.All w B' 0 is') (oa : ns.length = is.length) (ob : ns'.length = is'.length)
    (ih : ∀ i (h : i < is.length) q (h' : q < is'.length), EqC is[i] is'[q]) :
    Calls Tryz.prog 114 #[.agg #[.int .i64 k, .bool b, .int .i64 n, .string t, .slice A ns.length c, .slice B is.length d], .agg #[.int .i64 k', .bool b', .int .i64 n', .string t', .slice A' ns'.length c', .slice B' is'.length d']] w
      fun e w' => RetIff (With ns is ns' is') e ∧ Ext w w' := by
  have hl := h.1
  have H := Sd.mk h
  have H' := Sd.mk h'
  have IH := Sd.mk ih
  have HAll := Sd.mk hB
  have HAll' := Sd.mk hB'
  have OA := Sd.mk oa
  have OB := Sd.mk ob
  have hl2 : is.length ≤ 1048576 := by omega
  have hl3 : is'.length ≤ 1048576 := by have := h'.1; omega
  clear h h' ih hB hB' oa ob
  go_enter Tryz.func114, Tryz.ntmps114
  go_wp2_with fail
  refine (members_c _ _ _ _ _ _ _ _ _ _ _ (H.out.ext (((Ext.refl w).alloc _).alloc _))).mono ?_
  rintro e w1 ⟨v, rfl, hown, he⟩
  obtain ⟨A2, c2, rfl, hc2, hN⟩ := nats_of hown
  have HN := Sd.mk hN
  have HE1 := Sd.mk ((((Ext.refl w).alloc _).alloc _).trans he)
  have HB1 := Sd.mk (box_ext (box_keep (box_alloc w _) _) he)
  have HB1' := Sd.mk (box_ext (box_alloc2 w _ _) he)
  have hml := memsTo_le ns ns.length
  clear hown he hN
  go_wp2_with fail
  go_loopg [6] (memsTo ns ns.length).length (fun g v6 wr => ∃ j : Nat, v6 = .int .i64 j ∧ g + j = (memsTo ns ns.length).length ∧
    Sd (∀ i (h : i < (memsTo ns ns.length).length) (h' : (memsTo ns ns.length)[i] < is.length), i < j → ∃ q, ∃ (hq : q < is'.length), mem ns' (ns.getD (memsTo ns ns.length)[i] ⟨#[]⟩) = some q ∧ JEq is[(memsTo ns ns.length)[i]] is'[q]) ∧ Sd (Ext w1 wr))
  case atStart => exact ⟨0, rfl, by omega, ⟨fun i _ _ h => absurd h (by omega)⟩, ⟨Ext.refl _⟩⟩
  case round =>
    obtain ⟨j, rfl, hg, HA, HE⟩ := hrel
    have e1 := box_cell (box_ext HB1.out HE.out)
    have e2 := box_cell (box_ext HB1'.out HE.out)
    by_cases hj : j < (memsTo ns ns.length).length
    · obtain ⟨p, hp⟩ : ∃ p, (memsTo ns ns.length)[j] = p := ⟨_, rfl⟩
      have hpm := (mem_memsTo (ns := ns) (j := ns.length) (i := p)).1 (hp ▸ List.getElem_mem hj)
      have hpl : p < ns.length := hpm.1
      have hpi : p < is.length := by rw [← OA.out]; exact hpl
      obtain ⟨ad2, rfl, f0⟩ := HN.out.ext HE.out j hj
      rw [hp] at f0
      obtain ⟨ad, rfl, e0, hs⟩ := (H.out.ext (HE1.out.trans HE.out)).2 p hpl
      have G' := Sd.mk (H'.out.ext (HE1.out.trans HE.out))
      have HP := Sd.mk hp
      have HPM := Sd.mk hpm.2
      clear hp hpm
      go_upto_region 5 with (fail)
      go_cut [7] (fun v7 wx => v7 = .int .i64 (memI ns' ns[p]) ∧ Sd (Ext wr wx))
      case first =>
        go_region_with (go_at_call 64; refine (member_c _ _ _ _ _ _ _ _ _ _ _ _ (G'.out.ext (Ext.drewN (Ext.refl _) 1))).mono ?_; rintro e w' ⟨rfl, he⟩; have HE' := Sd.mk he; clear he)
        all_goals (go_wp2_with fail; go_meet; exact ⟨rfl, ⟨(Ext.drewN (Ext.refl _) 1).trans HE'.out⟩⟩)
      case rest =>
        obtain ⟨rfl, HE'⟩ := hcut
        have e1 := box_cell (box_ext (box_ext HB1.out HE.out) HE'.out)
        have e2 := box_cell (box_ext (box_ext HB1'.out HE.out) HE'.out)
        replace f0 := HE'.out.cell f0
        clear e0
        cases hm : mem ns' ns[p] with
        | none =>
          rw [memI_none hm]
          go_upto_region 6 with (fail)
          go_cut [44] (fun v44 wx => v44 = .bool true ∧ Sd (Ext wc wx))
          case first =>
            go_quiet (fail)
            go_wp2_with fail
            go_meet
            exact ⟨rfl, ⟨Ext.drewN (Ext.refl _) _⟩⟩
          case rest =>
            obtain ⟨rfl, HE2⟩ := hcut
            have NW : Sd (¬ With ns is ns' is') := ⟨fun hw => by
              obtain ⟨q, hq, h1, _⟩ := hw p hpi HPM.out
              rw [getD_of hpl, hm] at h1
              cases h1⟩
            clear hm e1 e2 f0
            go_wp2_with fail
            go_ret
            exact ⟨⟨false, rfl, by simpa using NW.out⟩, ((HE1.out.trans HE.out).trans HE'.out).trans HE2.out⟩
        | some q =>
          rw [memI_some hm]
          have hqi : q < is'.length := by rw [← OB.out]; exact (mem_some.1 hm).1
          have HQ := Sd.mk hm
          clear hm
          obtain ⟨ai, Ai, ci, Di, di, rfl, x0, x1, x2, x3, x4, x5, hAt⟩ := (HAll.out.ext ((HE1.out.trans HE.out).trans HE'.out)).elem p hpi
          obtain ⟨ai', Ai', ci', Di', di', rfl, y0, y1, y2, y3, y4, y5, hAt'⟩ := (HAll'.out.ext ((HE1.out.trans HE.out).trans HE'.out)).elem q hqi
          have HAt := Sd.mk hAt
          have HAt' := Sd.mk hAt'
          clear hAt hAt'
          go_upto_region 6 with (fail)
          go_cut [44] (fun v44 wx => ∃ r, v44 = .bool (!r) ∧ Sd (r = true ↔ JEq is[p] is'[q]) ∧ Sd (Ext wc wx))
          case first =>
            go_still_tail 16, (by kernel_rfl)
            change wpList _ _ _ _ _ wc.drew
            go_wp2_with (go_at_call 60; refine (IH.out p hpi q hqi _ _ _ (HAt.out.ext (Ext.drewN (Ext.refl _) 1)) (HAt'.out.ext (Ext.drewN (Ext.refl _) 1))).mono ?_; rintro e w' ⟨⟨r, rfl, hr⟩, he⟩; have HE2 := Sd.mk he; have HR := Sd.mk hr; clear he hr)
            go_meet
            exact ⟨_, rfl, HR, ⟨(Ext.drewN (Ext.refl _) 1).trans HE2.out⟩⟩
          case rest =>
            obtain ⟨r, rfl, HR, HE2⟩ := hcut
            clear e1 e2 f0 x0 x1 x2 x3 x4 x5 y0 y1 y2 y3 y4 y5
            cases r
            · have NW : Sd (¬ With ns is ns' is') := ⟨fun hw => by
                obtain ⟨q', hq', h1, h2⟩ := hw p hpi HPM.out
                rw [getD_of hpl, HQ.out] at h1
                cases h1
                exact absurd (HR.out.2 h2) (by simp)⟩
              clear HR
              go_wp2_with fail
              go_ret
              exact ⟨⟨false, rfl, by simpa using NW.out⟩, ((HE1.out.trans HE.out).trans HE'.out).trans HE2.out⟩
            · have HY := Sd.mk (HR.out.1 rfl)
              clear HR
              go_wp2_with fail
              go_roundg ((memsTo ns ns.length).length - (j + 1))
              case measure => omega
              case rel =>
                refine ⟨j + 1, by go_num, by omega, ⟨fun i h h' h2 => ?_⟩, ⟨(HE.out.trans HE'.out).trans HE2.out⟩⟩
                by_cases e : i = j
                · subst e
                  refine ⟨q, hqi, ?_, ?_⟩
                  · rw [HP.out, getD_of hpl]; exact HQ.out
                  · have := HY.out
                    simpa only [HP.out] using this
                · exact HA.out i h h' (by omega)
    · go_wp2_with fail
      go_ret
      refine ⟨⟨true, rfl, ?_⟩, HE1.out.trans HE.out⟩
      simp only [true_iff]
      intro i hi hm
      have hil : i < ns.length := by rw [OA.out]; exact hi
      have hin : i ∈ memsTo ns ns.length := mem_memsTo.2 ⟨hil, hm⟩
      obtain ⟨u, hu, e⟩ := List.getElem_of_mem hin
      have := HA.out u hu (by rw [e]; exact hi) (by omega)
      simpa only [e] using this

end Go.Proofs.YtgkjdgolffnagaaGreatDoor
