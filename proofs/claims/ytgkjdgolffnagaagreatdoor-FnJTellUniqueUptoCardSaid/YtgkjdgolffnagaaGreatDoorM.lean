/- Parts of the proof of the statement that this folder hands in: lemmas and contracts (M). -/
import Derived.Test.YtgkjdgolffnagaaGreatDoorKMg
import Derived.Carry
set_option linter.unusedSimpArgs false
set_option linter.unusedVariables false
namespace Go.Proofs.YtgkjdgolffnagaaGreatDoor
open Go.RowKit
open Go.ChangeMaps (setBlock)

theorem mem_take_succ {ns : List ByteArray} {j : Nat} (h : j < ns.length) (s : ByteArray) : mem (ns.take (j + 1)) s = if ns[j] = s then some j else mem (ns.take j) s := by
  split
  · rename_i e
    refine mem_some.2 ⟨by simp; omega, by simpa using e, fun k hk hlt => ?_⟩
    simp at hk; omega
  · rename_i e
    cases hm : mem (ns.take j) s with
    | none =>
      rw [mem_none] at hm ⊢
      intro k hk
      simp at hk
      by_cases hkj : k = j
      · subst hkj; simpa using e
      · have := hm k (by simp; omega)
        simpa using this
    | some q =>
      obtain ⟨h1, h2, h3⟩ := mem_some.1 hm
      simp at h1
      refine mem_some.2 ⟨by simp; omega, by simpa using h2, fun k hk hlt => ?_⟩
      simp at hk
      by_cases hkj : k = j
      · subst hkj; simpa using e
      · have := h3 k (by simp; omega) hlt
        simpa using this

theorem set_other {w : World} {b k : Nat} {o : Obj} (h : k ≠ b) : (setBlock w b o).heap[k]? = w.heap[k]? := by
  simp [setBlock, Ne.symm h]
theorem set_same {w : World} {b : Nat} {o o' : Obj} (h : w.heap[b]? = some o') : (setBlock w b o).heap[b]? = some o := by
  have := (Array.getElem?_eq_some_iff.1 h).1
  simp [setBlock, this]
theorem Ext.set {a w : World} (h : Ext a w) {b : Nat} (hb : a.heap.size ≤ b) (o : Obj) : Ext a (setBlock w b o) :=
  ⟨h.os, h.tape, h.output, by simpa [setBlock] using h.size, fun k hk => by rw [set_other (by omega)]; exact h.block k hk⟩

/-- A map's entries while it is laid: the first j members are in. -/
def Laid (w : World) (base b : Nat) (ns : List ByteArray) (is : List JV) (j : Nat) (es : Array MapEntry) : Prop :=
  ∃ q : MapEntry → Nat, (∀ e ∈ es.toList, ∃ s, e.key = .string s ∧ mem (ns.take j) s = some (q e)) ∧
    (∀ e ∈ es.toList, ∀ h : q e < is.length, Any w (fun k => base ≤ k ∧ k ≠ b) e.val is[q e]) ∧ (∀ i (h : i < ns.length), i < j → ∃ e ∈ es.toList, e.key = .string ns[i])

theorem laid_step {wr w' : World} {base b j clock' : Nat} {ns : List ByteArray} {is : List JV} {es es' : Array MapEntry} {x : Value} (hj : j < ns.length) (hji : j < is.length) (L : Laid wr base b ns is j es) (E : Ext wr w')
    (HX : Any w' (fun k => base ≤ k ∧ k ≠ b) x is[j]) (S2 : ∃ x ∈ es'.toList, x.key = .string ns[j]) (S3 : ∀ x ∈ es.toList, ∃ x' ∈ es'.toList, x'.key = x.key)
    (S4 : ∀ x' ∈ es'.toList, (x' ∈ es.toList ∧ x'.key ≠ .string ns[j]) ∨ (x'.key = .string ns[j] ∧ x'.val = x)) : Laid (setBlock w' b (.map es' clock')) base b ns is (j + 1) es' := by
  classical
  obtain ⟨q, L1, L2, L3⟩ := L
  refine ⟨fun e => if e.key = .string ns[j] then j else q e, fun e he => ?_, fun e he h => ?_, fun i h h2 => ?_⟩
  · rcases S4 e he with ⟨h1, h2⟩ | ⟨h1, h2⟩
    · obtain ⟨s, hs, hm⟩ := L1 e h1
      refine ⟨s, hs, ?_⟩
      simp only [if_neg h2]
      rw [mem_take_succ hj, if_neg (fun e1 => h2 (by rw [hs, e1]))]
      exact hm
    · exact ⟨ns[j], h1, by simp only [if_pos h1]; rw [mem_take_succ hj, if_pos rfl]⟩
  · rcases S4 e he with ⟨h1, h2⟩ | ⟨h1, h2⟩
    · simp only [if_neg h2] at h ⊢
      exact ((L2 e h1 h).ext E).keep fun k hN _ => ⟨set_other hN.2, hN⟩
    · simp only [if_pos h1] at h ⊢
      rw [h2]
      exact HX.keep fun k hN _ => ⟨set_other hN.2, hN⟩
  · by_cases e : i = j
    · subst e; exact S2
    · obtain ⟨e0, he0, hk0⟩ := L3 i h (by omega)
      obtain ⟨x', hx', hk'⟩ := S3 e0 he0
      exact ⟨x', hx', hk'.trans hk0⟩

set_option maxHeartbeats 4000000 in
set_option maxRecDepth 100000 in
theorem of_c (v : JV) : v.Ok → v.counts = true → OfC v := by
  induction v using JV.ind with | h k b n t ns is ih
  intro ok hcnt cs w h
  have IH : Sd (∀ i (h : i < is.length), OfC is[i]) := by
    cases ok with | mk _ _ _ _ _ _ _ _ _ ao
    exact ⟨fun i h => ih i h (ao i h) ((counts_mk hcnt).2 i h)⟩
  have hk2 := (counts_mk hcnt).1
  have OL : Sd (k = 5 → ns.length = is.length) := by cases ok; exact ⟨by assumption⟩
  simp only [JV.At] at h
  obtain ⟨A, c, B, d, rfl, h1, h2, h3, h4⟩ := h
  have hnl := h1.1
  have H1 := Sd.mk h1
  have H3 := Sd.mk h3
  clear h1 h3 ih ok hcnt
  have e2 : (k == 2) = false := by simpa using hk2
  by_cases k1 : k = 1
  · subst k1
    go_enter Tryz.func28, Tryz.ntmps28
    go_wp2_with fail
    go_ret
    exact ⟨⟨_, rfl, .bool _ _ _ _ _ _ rfl⟩, (Ext.refl _).alloc _⟩
  have e1 : (k == 1) = false := by simpa using k1
  by_cases k3 : k = 3
  · subst k3
    go_enter Tryz.func28, Tryz.ntmps28
    go_wp2_with fail
    go_ret
    exact ⟨⟨_, rfl, .text _ _ _ _ _ _ rfl h4⟩, (Ext.refl _).alloc _⟩
  have e3 : (k == 3) = false := by simpa using k3
  by_cases k4 : k = 4
  · subst k4
    go_enter Tryz.func28, Tryz.ntmps28
    go_wp2_with fail
    refine (ofRow_c is IH.out B d _ h2 (H3.out.ext ((Ext.refl w).alloc _))).mono ?_
    rintro e w' ⟨⟨A1, c1, x, rfl, hr⟩, he⟩
    have HR := Sd.mk hr
    have HE := Sd.mk he
    clear hr he
    go_wp2_with fail
    go_ret
    refine ⟨⟨_, rfl, .list _ _ _ _ _ _ A1 c1 x rfl h2 (fun i hi => ?_) fun i hi => (HR.out.2 i hi).keep fun k hN _ => ⟨rfl, by simp at hN; omega⟩⟩, ((Ext.refl w).alloc _).trans HE.out⟩
    obtain ⟨ad, ha, hN, hc⟩ := HR.out.1 i hi
    exact ⟨ad, ha, by simp at hN; omega, hc⟩
  have e4 : (k == 4) = false := by simpa using k4
  by_cases k5 : k = 5
  · subst k5
    have hol := OL.out rfl
    have HOL := Sd.mk hol
    clear hol OL
    have hmm := @run_makeMap Tryz.prog
    go_enter Tryz.func28, Tryz.ntmps28
    go_wp2_with fail
    go_loopg [35] is.length (fun g v35 wr => ∃ j : Nat, v35 = .int .i64 j ∧ g + j = is.length ∧ Sd (Ext w wr) ∧
      Sd (wr.heap[w.heap.size]? = some (.cells #[.int .i64 5, .bool b, .int .i64 n, .string t, .slice A ns.length c, .slice B is.length d] 25 (0, 0))) ∧
      Sd (∃ es clock, wr.heap[w.heap.size + 1]? = some (.map es clock) ∧ Ents es clock ∧ Laid wr w.heap.size (w.heap.size + 1) ns is j es))
    case atStart =>
      refine ⟨0, rfl, rfl, ⟨((Ext.refl _).alloc _).alloc _⟩, ⟨box_keep (box_alloc _ _) _⟩, ⟨#[], 0, box_alloc2 _ _ _, Ents.empty, fun _ => 0, by simp, by simp, fun i _ h => absurd h (by omega)⟩⟩
    case round =>
      obtain ⟨j, rfl, hg, HE, HB, HM⟩ := hrel
      have f1 := box_cell HB.out
      by_cases hj : j < is.length
      · obtain ⟨ad, A', c', D', d', rfl, e0, e1, e2, e3, e4, e5, hAt⟩ := (H3.out.ext HE.out).elem j hj
        have HAt := Sd.mk hAt
        clear hAt
        have hjn : j < ns.length := by rw [HOL.out]; exact hj
        obtain ⟨an, rfl, en, hs⟩ := (H1.out.ext HE.out).2 j hjn
        obtain ⟨es, clock, hb, F, L⟩ := HM.out
        have HW := Sd.mk ((Ext.refl wr).alloc (.cells #[.int .i64 is[j].kind, .bool is[j].bool, .int .i64 is[j].num, .string is[j].text, .slice A' is[j].names.length c', .slice D' is[j].items.length d'] 25))
        have HB2 := Sd.mk (box_ext HB.out HW.out)
        have f2 := box_cell HB2.out
        have EN := Sd.mk (HW.out.cell en)
        have en2 := EN.out
        have MB := Sd.mk (box_ext hb HW.out)
        clear hb
        have hjn' : decide ((j : Int) < (ns.length : Int)) = true := by simp; exact hjn
        go_upto_region 16 with (fail)
        clear f1 en e0 e1 e2 e3 e4 e5
        go_region_with (go_at_call 28; refine (IH.out j hj _ _ (HAt.out.ext (HW.out.drewN 1))).mono ?_; rintro e w' ⟨⟨x, rfl, hx⟩, he⟩; have HE' := Sd.mk ((HW.out.drewN 1).trans he); have HX := Sd.mk hx; have MB' := Sd.mk (box_ext MB.out ((Ext.drewN (Ext.refl _) 1).trans he)); have HB3 := Sd.mk (box_ext HB.out HE'.out); have f3 := box_cell HB3.out; have en3 := ((Ext.drewN (Ext.refl _) 1).trans he).cell EN.out; obtain ⟨es', clock', hrun, s1, s2, s3, s4⟩ := F.store MB'.out Tryz.underlying108 Tryz.underlying9 ns[j] x; have S1 := Sd.mk s1; have S2 := Sd.mk s2; have S3 := Sd.mk s3; have S4 := Sd.mk s4; clear he hx s1 s2 s3 s4)
        all_goals
          have sz := HW.out.size
          have sz2 := HE.out.size
          have szb := (Array.getElem?_eq_some_iff.1 HB2.out).1
          have szm := (Array.getElem?_eq_some_iff.1 MB.out).1
          simp only [World.size_alloc] at szm
          have HX' := HX.out.keep (w' := w') (N' := fun k => w.heap.size ≤ k ∧ k ≠ w.heap.size + 1) (fun k hN _ => ⟨rfl, by simp at hN; omega, by simp at hN; omega⟩)
          have HL := Sd.mk (laid_step (clock' := clock') hjn hj L HE'.out HX' S2.out S3.out S4.out)
          have HB4 := Sd.mk (show (setBlock w' (w.heap.size + 1) (.map es' clock')).heap[w.heap.size]? = _ from (set_other (by omega)).trans HB3.out)
          have MB4 := Sd.mk (set_same (o := .map es' clock') MB'.out)
          have HE4 := Sd.mk ((HE.out.trans HE'.out).set (b := w.heap.size + 1) (by omega) (.map es' clock'))
          clear hrun HX' sz sz2 szb szm f3 en3
          go_wp2_with fail
          go_roundg (is.length - (j + 1))
          case measure => omega
          case rel => exact ⟨j + 1, by go_num, by omega, HE4, HB4, ⟨es', clock', MB4.out, S1.out, HL.out⟩⟩
      · have ej : j = is.length := by omega
        obtain ⟨es, clock, hb, F, q, L1, L2, L3⟩ := HM.out
        have HG : Sd (Given w (.mk 5 b n t ns is) (.returned (.iface 108 (.map (some (w.heap.size + 1))))) wr) := by
          refine ⟨⟨_, rfl, .obj _ _ _ _ _ _ (w.heap.size + 1) es clock q rfl (by omega) hb F (fun e he => ?_) (fun e he h => (L2 e he h).keep fun k hN _ => ⟨rfl, hN.1⟩) fun s hs => ?_⟩, HE.out⟩
          · obtain ⟨s, hs, hm⟩ := L1 e he
            rw [ej, ← HOL.out, List.take_length] at hm
            exact ⟨s, hs, hm, by rw [← HOL.out]; exact (mem_some.1 hm).1⟩
          · obtain ⟨i, hi, rfl⟩ := List.getElem_of_mem hs
            exact L3 i hi (by rw [ej, ← HOL.out]; exact hi)
        clear HM hb F L1 L2 L3
        go_wp2_with fail
        go_ret
        exact HG.out
  have e5 : (k == 5) = false := by simpa using k5
  go_enter Tryz.func28, Tryz.ntmps28
  go_wp2_with fail
  go_ret
  exact ⟨⟨_, rfl, .nul _ _ _ _ _ _ k1 hk2 k3 k4 k5⟩, (Ext.refl _).alloc _⟩

end Go.Proofs.YtgkjdgolffnagaaGreatDoor
