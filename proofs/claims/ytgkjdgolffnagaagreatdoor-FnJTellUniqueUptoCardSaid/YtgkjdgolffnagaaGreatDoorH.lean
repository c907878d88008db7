/- Parts of the proof of the statement that this folder hands in: lemmas and contracts (H). -/
import Derived.Test.YtgkjdgolffnagaaGreatDoorFMg
set_option linter.unusedSimpArgs false
set_option linter.unusedVariables false
namespace Go.Proofs.YtgkjdgolffnagaaGreatDoor
open Go.RowKit

theorem mem_none' {ns : List ByteArray} {nm : ByteArray} : mem ns nm = none ↔ nm ∉ ns := by
  rw [mem_none]
  constructor
  · intro h hm
    obtain ⟨i, hi, e⟩ := List.getElem_of_mem hm
    exact h i hi e
  · intro h k hk e
    exact h (e ▸ List.getElem_mem hk)

def Has (ns ns' : List ByteArray) : Prop := ∀ x ∈ ns, x ∈ ns'

def RetIff (p : Prop) (e : Ending) : Prop := ∃ r : Bool, e = .returned (.bool r) ∧ (r = true ↔ p)

theorem memI_neg {ns : List ByteArray} {nm : ByteArray} : memI ns nm < 0 ↔ nm ∉ ns := by
  rw [← mem_none', memI]
  cases mem ns nm with
  | none => simp
  | some q => simp

set_option maxHeartbeats 1000000 in
set_option maxRecDepth 100000 in
theorem has_c (k : Int) (b : Bool) (n : Int) (t : ByteArray) (A : Option Addr) (c : Nat) (ns : List ByteArray) (B : Option Addr) (l d : Nat)
    (k' : Int) (b' : Bool) (n' : Int) (t' : ByteArray) (A' : Option Addr) (c' : Nat) (ns' : List ByteArray) (B' : Option Addr) (l' d' : Nat) (w : World) (h : Strs w A ns) (h' : Strs w A' ns') :
    Calls Tryz.prog 113 #[.agg #[.int .i64 k, .bool b, .int .i64 n, .string t, .slice A ns.length c, .slice B l d], .agg #[.int .i64 k', .bool b', .int .i64 n', .string t', .slice A' ns'.length c', .slice B' l' d']] w
      fun e w' => RetIff (Has ns ns') e ∧ Ext w w' := by
  have hl := h.1
  have H := Sd.mk h
  have H' := Sd.mk h'
  clear h h'
  go_enter Tryz.func113, Tryz.ntmps113
  go_wp2_with fail
  go_loopg [5] ns.length (fun g v5 wr => ∃ j : Nat, v5 = .int .i64 j ∧ g + j = ns.length ∧ Sd (∀ i (h : i < ns.length), i < j → ns[i] ∈ ns') ∧ Sd (Ext w wr) ∧
    Sd (wr.heap[w.heap.size]? = some (.cells #[.int .i64 k, .bool b, .int .i64 n, .string t, .slice A ns.length c, .slice B l d] 25 (0, 0))) ∧
    Sd (wr.heap[w.heap.size + 1]? = some (.cells #[.int .i64 k', .bool b', .int .i64 n', .string t', .slice A' ns'.length c', .slice B' l' d'] 25 (0, 0))))
  case atStart => exact ⟨0, rfl, rfl, ⟨fun i _ h => absurd h (by omega)⟩, ⟨((Ext.refl _).alloc _).alloc _⟩, ⟨box_keep (box_alloc _ _) _⟩, ⟨box_alloc2 _ _ _⟩⟩
  case round =>
    obtain ⟨j, rfl, hg, HA, HE, HB, HB'⟩ := hrel
    have c1 := box_cell HB.out
    have c2 := box_cell HB'.out
    by_cases hj : j < ns.length
    · obtain ⟨ad, rfl, e0, hs⟩ := (H.out.ext HE.out).2 j hj
      have G' := Sd.mk (H'.out.ext HE.out)
      go_upto_region 4 with (fail)
      go_cut [20] (fun v20 wx => v20 = .bool (decide (memI ns' ns[j] < 0)) ∧ Sd (Ext wr wx))
      case first =>
        go_region_with (go_at_call 64; refine (member_c _ _ _ _ _ _ _ _ _ _ _ _ (G'.out.ext (Ext.drewN (Ext.refl _) 1))).mono ?_; rintro e w' ⟨rfl, he⟩; have HE' := Sd.mk he; clear he)
        all_goals (go_wp2_with fail; go_meet; exact ⟨rfl, ⟨(Ext.drewN (Ext.refl _) 1).trans HE'.out⟩⟩)
      case rest =>
        obtain ⟨rfl, HE'⟩ := hcut
        clear c1 c2 e0
        by_cases hm : memI ns' ns[j] < 0
        · have hm' : decide (memI ns' ns[j] < 0) = true := by simpa using hm
          go_wp2_with fail
          go_ret
          exact ⟨⟨false, rfl, by simp; exact fun hh => memI_neg.1 hm (hh _ (List.getElem_mem hj))⟩, HE.out.trans HE'.out⟩
        · have hm' : decide (memI ns' ns[j] < 0) = false := by simpa using hm
          have hin : ns[j] ∈ ns' := by
            rw [memI_neg] at hm
            exact Classical.not_not.1 hm
          have HIN := Sd.mk hin
          clear hin
          go_wp2_with fail
          go_roundg (ns.length - (j + 1))
          case measure => omega
          case rel => exact ⟨j + 1, by go_num, by omega, ⟨fun i h h2 => if e : i = j then by subst e; exact HIN.out else HA.out i h (by omega)⟩, ⟨HE.out.trans HE'.out⟩, ⟨box_ext HB.out HE'.out⟩, ⟨box_ext HB'.out HE'.out⟩⟩
    · go_wp2_with fail
      go_ret
      exact ⟨⟨true, rfl, by simp; exact fun x hx => by obtain ⟨i, hi, rfl⟩ := List.getElem_of_mem hx; exact HA.out i hi (by omega)⟩, HE.out⟩

/-- Two values are equal. -/
inductive JEq : JV → JV → Prop
  | mk (k : Int) (b n t ns is) (k' : Int) (b' n' t' ns' is') : k = k' → (k = 1 → b = b') → (k = 3 → t = t') → (k = 4 → is.length = is'.length) →
      (k = 4 → ∀ i (h : i < is.length) (h' : i < is'.length), JEq is[i] is'[i]) → (k = 5 → Has ns ns') → (k = 5 → Has ns' ns) →
      (k = 5 → ∀ i (h : i < is.length), mem ns (ns.getD i ⟨#[]⟩) = some i → ∀ q (h' : q < is'.length), mem ns' (ns.getD i ⟨#[]⟩) = some q → JEq is[i] is'[q]) →
      JEq (.mk k b n t ns is) (.mk k' b' n' t' ns' is')

theorem getD_of {ns : List ByteArray} {i : Nat} (h : i < ns.length) : ns.getD i ⟨#[]⟩ = ns[i] := by simp [h]

theorem JEq.symm (a : JV) : ∀ b, a.Ok → b.Ok → JEq a b → JEq b a := by
  induction a using JV.ind with | h k b n t ns is ih
  · intro c oa oc h
    cases h with | mk _ _ _ _ _ _ k' b' n' t' ns' is' h1 h2 h3 h4 h5 h6 h7 h8
    subst h1
    cases oa with | mk _ _ _ _ _ _ _ _ al ao
    cases oc with | mk _ _ _ _ _ _ _ _ cl co
    refine .mk _ _ _ _ _ _ _ _ _ _ _ _ rfl (fun e => (h2 e).symm) (fun e => (h3 e).symm) (fun e => (h4 e).symm) ?_ h7 h6 ?_
    · intro e i hi hi'
      exact ih i hi' _ (ao i hi') (co i hi) (h5 e i hi' hi)
    · intro e i hi hm q hq hmq
      have hil : i < ns'.length := by rw [cl e]; exact hi
      have hql : q < ns.length := by rw [al e]; exact hq
      obtain ⟨_, hq2, _⟩ := mem_some.1 hmq
      refine ih q hq _ (ao q hq) (co i hi) (h8 e q hq ?_ i hi ?_)
      · rw [getD_of hql, hq2]; exact hmq
      · rw [getD_of hql, hq2]; exact hm

end Go.Proofs.YtgkjdgolffnagaaGreatDoor
