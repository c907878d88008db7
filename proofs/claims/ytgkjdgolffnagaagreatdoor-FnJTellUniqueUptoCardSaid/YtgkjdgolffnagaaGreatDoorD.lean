/- Parts of the proof of the statement that this folder hands in: lemmas and contracts (D). -/
import Derived.Test.YtgkjdgolffnagaaGreatDoorC
set_option linter.unusedSimpArgs false
set_option linter.unusedVariables false
namespace Go.Proofs.YtgkjdgolffnagaaGreatDoor
open Go.RowKit

mutual
def JV.counts : JV → Bool
  | .mk k _ _ _ _ is => if k = 2 then false else JV.countsAll is
def JV.countsAll : List JV → Bool
  | [] => true
  | x :: r => if x.counts then JV.countsAll r else false
end
theorem countsAll_drop (l : List JV) (j : Nat) (h : j < l.length) : JV.countsAll (l.drop j) = if (l[j]).counts then JV.countsAll (l.drop (j + 1)) else false := by
  rw [List.drop_eq_getElem_cons h]; rfl

set_option maxHeartbeats 1000000 in
theorem counts_c (v : JV) : ∀ (cs : List Value) (w : World), v.At w cs →
    Calls Tryz.prog 12 #[.agg cs.toArray] w fun e w' => e = .returned (.bool v.counts) ∧ Ext w w' := by
  induction v using JV.ind with | h k b n t ns is ih
  · intro cs w h
    simp only [JV.At] at h
    obtain ⟨A, c, B, d, rfl, h1, h2, h3, h4⟩ := h
    simp only [JV.counts]
    clear h1
    have ih := Sd.mk ih
    have H3 := Sd.mk h3
    clear h3
    by_cases hk : k = 2
    · go_enter Tryz.func12, Tryz.ntmps12
      go_wp2_with fail
      go_ret
      exact ⟨by simp [], (Ext.refl _).alloc _⟩
    · rw [if_neg hk]
      have hk' : (k == 2) = false := by simpa using hk
      go_enter Tryz.func12, Tryz.ntmps12
      go_wp2_with fail
      go_loopg [3] is.length (fun g v3 wr => ∃ j : Nat, v3 = .int .i64 j ∧ g + j = is.length ∧ Sd (JV.countsAll (is.drop j) = JV.countsAll is) ∧ Sd (Ext w wr) ∧ Sd (wr.heap[w.heap.size]? = some (.cells #[.int .i64 k, .bool b, .int .i64 n, .string t, .slice A ns.length c, .slice B is.length d] 25 (0, 0))))
      case atStart => exact ⟨0, rfl, rfl, ⟨rfl⟩, ⟨(Ext.refl _).alloc _⟩, ⟨box_alloc _ _⟩⟩
      case round =>
        obtain ⟨j, rfl, hg, HC, HE, HB⟩ := hrel
        have hcell := box_cell HB.out
        by_cases hj : j < is.length
        · obtain ⟨ad, A', c', D', d', rfl, e0, e1, e2, e3, e4, e5, hAt⟩ := (H3.out.ext HE.out).elem j hj
          have HAt := Sd.mk hAt; clear hAt
          have HD := Sd.mk (countsAll_drop is j hj)
          rcases hb : (is[j]).counts
          all_goals go_wp2_with (go_at_call 12; refine (ih.out j hj _ _ HAt.out).mono ?_; rintro e w' ⟨rfl, he⟩; have HE' := Sd.mk he; clear he)
          · go_ret
            exact ⟨by rw [← HC.out, HD.out]; simp [hb], (HE.out.trans HE'.out)⟩
          · go_roundg (is.length - (j + 1))
            case measure => omega
            case rel => exact ⟨j + 1, by go_num, by omega, ⟨by rw [← HC.out, HD.out]; simp [hb]⟩, ⟨HE.out.trans HE'.out⟩, ⟨box_ext HB.out HE'.out⟩⟩
        · go_wp2_with fail
          go_ret
          exact ⟨by rw [← HC.out, List.drop_of_length_le (by omega)]; rfl, HE.out⟩

/-- A value's kinds are there, an object has as many names as members, at every depth. -/
inductive JV.Ok : JV → Prop
  | mk (k : Int) (b n t ns is) : 0 ≤ k → k ≤ 5 → (k = 5 → ns.length = is.length) → (∀ i (h : i < is.length), JV.Ok is[i]) → JV.Ok (.mk k b n t ns is)
/-- No array has more than 20 elements, at every depth. -/
inductive JV.Short : JV → Prop
  | mk (k : Int) (b n t ns is) : (k = 4 → is.length ≤ 20) → (∀ i (h : i < is.length), JV.Short is[i]) → JV.Short (.mk k b n t ns is)

theorem JV.All.open {w : World} {B : Option Addr} {is : List JV} (h : JV.All w B 0 is) (j : Nat) (hj : j < is.length) :
    ∃ ad A c D d k b n t ns xs, B = some ad ∧ is[j] = .mk k b n t ns xs ∧ w.cell? (ad.add (j * 6)) = some (.int .i64 k) ∧
      w.cell? ⟨(ad.add (j * 6)).block, (ad.add (j * 6)).off + 1, none⟩ = some (.bool b) ∧
      w.cell? ⟨(ad.add (j * 6)).block, (ad.add (j * 6)).off + 2, none⟩ = some (.int .i64 n) ∧
      w.cell? ⟨(ad.add (j * 6)).block, (ad.add (j * 6)).off + 3, none⟩ = some (.string t) ∧
      w.cell? ⟨(ad.add (j * 6)).block, (ad.add (j * 6)).off + 4, none⟩ = some (.slice A ns.length c) ∧
      w.cell? ⟨(ad.add (j * 6)).block, (ad.add (j * 6)).off + 5, none⟩ = some (.slice D xs.length d) ∧
      Strs w A ns ∧ xs.length ≤ 1048576 ∧ JV.All w D 0 xs ∧ t.size ≤ 1048576 ∧
      (JV.mk k b n t ns xs).At w [.int .i64 k, .bool b, .int .i64 n, .string t, .slice A ns.length c, .slice D xs.length d] := by
  obtain ⟨ad, A, c, D, d, hB, e0, e1, e2, e3, e4, e5, hAt⟩ := h.elem j hj
  generalize is[j] = x at *
  obtain ⟨k, b, n, t, ns, xs⟩ := x
  have hA := hAt
  simp only [JV.At, JV.kind, JV.bool, JV.num, JV.text, JV.names, JV.items] at *
  obtain ⟨A', c', D', d', hcs, h1, h2, h3, h4⟩ := hA
  simp only [List.cons.injEq, Value.slice.injEq, true_and, and_true] at hcs
  obtain ⟨⟨rfl, rfl⟩, rfl, rfl⟩ := hcs
  exact ⟨ad, A, c, D, d, k, b, n, t, ns, xs, hB, rfl, e0, e1, e2, e3, e4, e5, h1, h2, h3, h4, hAt⟩

theorem fits4_any (A : Option Addr) (c : Nat) (l : List ByteArray) (w : World) (h : Strs w A l) :
    Calls Tryz.prog 10 #[.slice A l.length c] w fun e w' => (∃ b, e = .returned (.bool b)) ∧ w = w' := by
  have hl := h.1
  have H := Sd.mk h
  clear h
  go_enter Tryz.func10, Tryz.ntmps10
  go_wp2_with fail
  go_loopg [10] l.length (fun g v10 wr => ∃ j : Nat, v10 = .int .i64 j ∧ g + j = l.length ∧ w = wr)
  case atStart => exact ⟨0, rfl, rfl, rfl⟩
  case round =>
    obtain ⟨j, rfl, hg, rfl⟩ := hrel
    by_cases hj : j < l.length
    · obtain ⟨ad, rfl, e0, hs⟩ := H.out.2 j hj
      go_wp2_with fail
      go_roundg (l.length - (j + 1))
      case measure => omega
      case rel => exact ⟨j + 1, by go_num, by omega, rfl⟩
    · go_wp2_with fail
      go_ret
      exact ⟨⟨_, rfl⟩, rfl⟩

theorem fits5_any (v : JV) (cs : List Value) (w : World) (h : v.At w cs) :
    Calls Tryz.prog 4 #[.agg cs.toArray] w fun e w' => (∃ b, e = .returned (.bool b)) ∧ Ext w w' := by
  obtain ⟨k, b, n, t, ns, is⟩ := v
  simp only [JV.At] at h
  obtain ⟨A, c, B, d, rfl, h1, h2, h3, h4⟩ := h
  have H1 := Sd.mk (h1.ext ((Ext.refl w).alloc (.cells #[.int .i64 k, .bool b, .int .i64 n, .string t, .slice A ns.length c, .slice B is.length d] 25)))
  clear h1 h3
  go_enter Tryz.func4, Tryz.ntmps4
  go_wp2_with (go_at_call 10; ((with_reducible refine (fits4_any _ _ _ _ H1.out).mono ?_); rintro e w' ⟨⟨b', rfl⟩, rfl⟩))
  all_goals (go_ret; exact ⟨⟨_, rfl⟩, (Ext.refl _).alloc _⟩)

end Go.Proofs.YtgkjdgolffnagaaGreatDoor
