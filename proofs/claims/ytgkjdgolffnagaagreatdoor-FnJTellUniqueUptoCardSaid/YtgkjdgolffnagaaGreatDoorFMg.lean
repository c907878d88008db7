/- Parts of the proof of the statement that this folder hands in: lemmas and contracts (F, G). -/
import Derived.Test.YtgkjdgolffnagaaGreatDoorE
import Derived.StillTailTactics
set_option linter.unusedSimpArgs false
set_option linter.unusedVariables false
namespace Go.Proofs.YtgkjdgolffnagaaGreatDoor
open Go.RowKit

theorem toList_inj {a b : ByteArray} : a.toList = b.toList ↔ a = b := by
  constructor
  · intro h
    rw [ByteArray.toList_eq, ByteArray.toList_eq] at h
    exact ByteArray.ext (Array.toList_inj.1 h)
  · rintro rfl; rfl

/-- The last place of a name. -/
def mem : List ByteArray → ByteArray → Option Nat
  | [], _ => none
  | x :: r, nm => match mem r nm with
    | some k => some (k + 1)
    | none => if x = nm then some 0 else none

theorem mem_some {ns : List ByteArray} {nm : ByteArray} {i : Nat} : mem ns nm = some i ↔ ∃ h : i < ns.length, ns[i] = nm ∧ ∀ k (h : k < ns.length), i < k → ns[k] ≠ nm := by
  induction ns generalizing i with
  | nil => simp [mem]
  | cons x r ih =>
    simp only [mem]
    cases hm : mem r nm with
    | some k =>
      have hk := ih.1 hm
      obtain ⟨hk1, hk2, hk3⟩ := hk
      constructor
      · intro h
        obtain rfl : k + 1 = i := by simpa using h
        refine ⟨by simp; omega, by simpa using hk2, fun q hq hlt => ?_⟩
        cases q with
        | zero => omega
        | succ q => simpa using hk3 q (by simpa using hq) (by omega)
      · rintro ⟨h1, h2, h3⟩
        have : k + 1 = i := by
          apply Nat.le_antisymm
          · apply Nat.le_of_not_lt; intro hlt
            exact h3 (k + 1) (by simp; omega) hlt (by simpa using hk2)
          · apply Nat.le_of_not_lt; intro hlt
            cases i with
            | zero => omega
            | succ i => exact hk3 i (by simpa using h1) (by omega) (by simpa using h2)
        simp [this]
    | none =>
      have hn : ∀ k (h : k < r.length), r[k] ≠ nm := by
        intro k h he
        have : ∃ i, mem r nm = some i := by
          clear ih
          induction r generalizing k with
          | nil => simp at h
          | cons y r ih2 =>
            simp only [mem] at hm ⊢
            cases hm2 : mem r nm with
            | some q => rw [hm2] at hm; simp at hm
            | none =>
              rw [hm2] at hm
              cases k with
              | zero => simp at he; rw [if_pos he] at hm; simp at hm
              | succ k =>
                obtain ⟨i, hi⟩ := ih2 hm2 k (by simpa using h) (by simpa using he)
                rw [hi] at hm2; simp at hm2
        obtain ⟨i, hi⟩ := this
        rw [hi] at hm; simp at hm
      constructor
      · intro h
        by_cases hx : x = nm
        · simp [hx] at h; subst h
          exact ⟨by simp, by simpa using hx, fun q hq hlt => by cases q with
            | zero => omega
            | succ q => simpa using hn q (by simpa using hq)⟩
        · simp [hx] at h
      · rintro ⟨h1, h2, h3⟩
        cases i with
        | zero => simp at h2; simp [h2]
        | succ i => exact absurd h2 (hn i (Nat.lt_of_succ_lt_succ h1))

theorem mem_none {ns : List ByteArray} {nm : ByteArray} : mem ns nm = none ↔ ∀ k (h : k < ns.length), ns[k] ≠ nm := by
  induction ns with
  | nil => simp [mem]
  | cons x r ih =>
    simp only [mem]
    cases hm : mem r nm with
    | some k =>
      obtain ⟨h1, h2, _⟩ := mem_some.1 hm
      constructor
      · intro h; simp at h
      · intro h; exact absurd h2 (h (k + 1) (by simp; omega))
    | none =>
      have hn := ih.1 hm
      constructor
      · intro h k hk
        cases k with
        | zero => intro he; simp at he; simp [he] at h
        | succ k => simpa using hn k (by simpa using hk)
      · intro h
        have := h 0 (by simp)
        simp at this
        simp [this]

def memI (ns : List ByteArray) (nm : ByteArray) : Int := match mem ns nm with | some i => i | none => -1

/-- The places that count. -/
def mems (ns : List ByteArray) : List Nat := (List.range ns.length).filter fun i => decide (mem ns (ns.getD i ⟨#[]⟩) = some i)

theorem cmp_bool {a b : ByteArray} : (a.toList == b.toList) = decide (a = b) := by
  by_cases h : a = b
  · simp [h]
  · simp [h, toList_inj]

theorem member_c (k : Int) (b : Bool) (n : Int) (t : ByteArray) (A : Option Addr) (c : Nat) (ns : List ByteArray) (B : Option Addr) (l d : Nat) (nm : ByteArray) (w : World) (h : Strs w A ns) :
    Calls Tryz.prog 64 #[.agg #[.int .i64 k, .bool b, .int .i64 n, .string t, .slice A ns.length c, .slice B l d], .string nm] w
      fun e w' => e = .returned (.int .i64 (memI ns nm)) ∧ Ext w w' := by
  have hl := h.1
  have H := Sd.mk (h.ext ((Ext.refl w).alloc (.cells #[.int .i64 k, .bool b, .int .i64 n, .string t, .slice A ns.length c, .slice B l d] 25)))
  clear h
  go_enter Tryz.func64, Tryz.ntmps64
  go_wp2_with fail
  go_loop [5] (fun v5 => ∃ j : Nat, v5 = .int .i64 ((j : Int) - 1) ∧ j ≤ ns.length ∧ Sd (∀ i (h : i < ns.length), j ≤ i → ns[i] ≠ nm)) (fun v5 => (intOf v5 + 1).toNat)
  case atStart => exact ⟨ns.length, rfl, Nat.le_refl _, ⟨fun i h h2 => absurd h (by omega)⟩⟩
  case round =>
    obtain ⟨j, rfl, hj, HA⟩ := hrel
    by_cases h0 : j = 0
    · subst h0
      go_wp2_with fail
      go_ret
      exact ⟨by rw [memI, mem_none.2 (fun i h => HA.out i h (by omega))]; rfl, (Ext.refl _).alloc _⟩
    · obtain ⟨q, rfl⟩ : ∃ q, j = q + 1 := ⟨j - 1, by omega⟩
      have hq : q < ns.length := by omega
      obtain ⟨ad, rfl, e0, hs⟩ := H.out.2 q hq
      have ee : (((q + 1 : Nat) : Int) - 1) = (q : Int) := by omega
      rw [ee]
      by_cases hc : ns[q] = nm
      · have hc' : (ns[q].toList == nm.toList) = true := by rw [cmp_bool]; simp [hc]
        go_wp2_with fail
        go_ret
        exact ⟨by rw [memI, mem_some.2 ⟨hq, hc, fun i h h2 => HA.out i h (by omega)⟩]; rfl, (Ext.refl _).alloc _⟩
      · have hc' : (ns[q].toList == nm.toList) = false := by rw [cmp_bool]; simp [hc]
        go_wp2_with fail
        go_round
        case rel => exact ⟨q, rfl, by omega, ⟨fun i h h2 => if e : i = q then by subst e; exact hc else HA.out i h (by omega)⟩⟩
        case measure => simp [intOf]

end Go.Proofs.YtgkjdgolffnagaaGreatDoor
set_option linter.unusedVariables false
namespace Go.Proofs.YtgkjdgolffnagaaGreatDoor
open Go.RowKit

/-- The places below j that count. -/
def memsTo (ns : List ByteArray) (j : Nat) : List Nat := (List.range j).filter fun i => decide (mem ns (ns.getD i ⟨#[]⟩) = some i)
theorem memsTo_succ (ns : List ByteArray) (j : Nat) (h : j < ns.length) : memsTo ns (j + 1) = memsTo ns j ++ if mem ns ns[j] = some j then [j] else [] := by
  simp only [memsTo, List.range_succ, List.filter_append]
  congr 1
  simp [List.getD_eq_getElem?_getD, h, List.filter_cons]
theorem memsTo_le (ns : List ByteArray) (j : Nat) : (memsTo ns j).length ≤ j := by
  have := List.length_filter_le (fun i => decide (mem ns (ns.getD i ⟨#[]⟩) = some i)) (List.range j)
  simpa [memsTo] using this

def intsOf (l : List Nat) : List Value := l.map fun (i : Nat) => .int .i64 (i : Int)

def MemRes (ns : List ByteArray) (w : World) (e : Ending) (w' : World) : Prop :=
  ∃ v, e = .returned v ∧ w'.ownsRow w.heap.size 3 1 v (memsTo ns ns.length).length (intsOf (memsTo ns ns.length)) ∧ Ext w w'

theorem info3 : (Tryz.prog.info? 3).map (fun i => (i.zero, i.size, i.bytes)) = some (some (.int .i64 0), 1, 8) := by kernel_rfl

set_option maxHeartbeats 1000000 in
set_option maxRecDepth 100000 in
theorem members_c (k : Int) (b : Bool) (n : Int) (t : ByteArray) (A : Option Addr) (c : Nat) (ns : List ByteArray) (B : Option Addr) (l d : Nat) (w : World) (h : Strs w A ns) :
    Calls Tryz.prog 73 #[.agg #[.int .i64 k, .bool b, .int .i64 n, .string t, .slice A ns.length c, .slice B l d]] w (MemRes ns w) := by
  have hl := h.1
  have H := Sd.mk h
  clear h
  obtain ⟨i0, hi, hz0, hz1, hz2⟩ := info_parts info3
  go_enter Tryz.func73, Tryz.ntmps73
  go_wp2_with fail
  go_loopg [3, 4] ns.length (fun g v3 v4 wr => ∃ j : Nat, v4 = .int .i64 j ∧ g + j = ns.length ∧ Sd (Ext w wr) ∧ Sd (wr.heap[w.heap.size]? = some (.cells #[.int .i64 k, .bool b, .int .i64 n, .string t, .slice A ns.length c, .slice B l d] 25 (0, 0))) ∧
    Sd (wr.ownsRow (w.heap.size + 1) 3 1 v3 (memsTo ns j).length (intsOf (memsTo ns j))))
  case atStart => exact ⟨0, rfl, rfl, ⟨(Ext.refl _).alloc _⟩, ⟨box_alloc _ _⟩, ⟨⟨by simp [memsTo, intsOf], .inl ⟨rfl, rfl⟩⟩⟩⟩
  case round =>
    obtain ⟨j, rfl, hg, HE, HB, HO⟩ := hrel
    have c2 := box_cell HB.out
    by_cases hj : j < ns.length
    · obtain ⟨ad, rfl, e0, hs⟩ := (H.out.ext HE.out).2 j hj
      have H' := Sd.mk (H.out.ext HE.out)
      go_upto_region 5 with (fail)
      go_cut [20] (fun v20 wx => v20 = .bool (memI ns ns[j] == (j : Int)) ∧ Sd (Ext wr wx))
      case first =>
        go_region_with (go_at_call 64; refine (member_c _ _ _ _ _ _ _ _ _ _ _ _ (H'.out.ext (Ext.drewN (Ext.refl _) 1))).mono ?_; rintro e w' ⟨rfl, he⟩; have HE' := Sd.mk he; clear he)
        all_goals (go_wp2_with fail; go_meet; exact ⟨rfl, ⟨(Ext.drewN (Ext.refl _) 1).trans HE'.out⟩⟩)
      case rest =>
        obtain ⟨rfl, HE'⟩ := hcut
        have HB' := Sd.mk (box_ext HB.out HE'.out)
        have HO' := Sd.mk (owns_ext HO.out HE'.out)
        have hms := memsTo_succ ns j hj
        have HM := Sd.mk hms
        clear hms c2 e0
        by_cases hm : mem ns ns[j] = some j
        · have hb : (memI ns ns[j] == (j : Int)) = true := by simp [memI, hm]
          go_wp2_with (at_builtin; refine wpList_append_own _ rfl (.tmp 21) (.tmp 23) 32 rfl (w.heap.size + 1) 3 i0 (.int .i64 0) 1 8 Tryz.underlying32 hi hz0 hz1 hz2 rfl (by decide) _ _ _ rfl (HO'.out.alloc _) ⟨wc.heap.size, 0, none⟩ 1 1 [.int .i64 (j : Int)] rfl rfl ?c1 ?c2 ?c3 ?c4 ?c5 ?_)
          case c1 => exact cell_one_new _ _ _
          case c2 => simp [Value.oneCell']
          case c3 => have := memsTo_le ns j; unfold maxLen; omega
          case c4 => have := memsTo_le ns j; omega
          case c5 => have := HE'.out.size; have := HE.out.size; have := (Array.getElem?_eq_some_iff.1 HB'.out).1; simp; omega
          intro v' w1 hown' hgrow _
          have HX := Sd.mk (Ext.grown ((HE.out.trans HE'.out).alloc _) hgrow (Nat.le_succ _) (owns_base HO'.out))
          have HB1 := Sd.mk (box_grown (box_keep HB'.out _) hgrow (fun k hk e => by have := owns_base HO'.out k hk; omega))
          have HO1 := Sd.mk hown'
          clear hown' hgrow
          go_wp2_with fail
          go_roundg (ns.length - (j + 1))
          case measure => omega
          case rel => exact ⟨j + 1, by go_num, by omega, HX, HB1, ⟨by rw [HM.out, if_pos hm]; simpa [intsOf] using HO1.out⟩⟩
        · have hb : (memI ns ns[j] == (j : Int)) = false := by
            simp only [memI]
            cases h : mem ns ns[j] with
            | none => simp
            | some q => simp; intro e; have e : q = j := by omega
                        exact hm (by rw [h, e])
          go_wp2_with fail
          go_roundg (ns.length - (j + 1))
          case measure => omega
          case rel => exact ⟨j + 1, by go_num, by omega, ⟨HE.out.trans HE'.out⟩, HB', ⟨by rw [HM.out, if_neg hm, List.append_nil]; exact HO'.out⟩⟩
    · go_wp2_with fail
      go_ret
      have e : j = ns.length := by omega
      subst e
      exact ⟨_, rfl, owns_mono HO.out (by omega), HE.out⟩

/-- A slice of numbers that is read. -/
def Nats (w : World) (A : Option Addr) (l : List Nat) : Prop :=
  ∀ i (h : i < l.length), ∃ ad, A = some ad ∧ w.cell? (ad.add i) = some (.int .i64 (l[i] : Int))
theorem Nats.ext {w w' : World} {A : Option Addr} {l : List Nat} (h : Nats w A l) (e : Ext w w') : Nats w' A l :=
  fun i hi => let ⟨ad, ha, hc⟩ := h i hi; ⟨ad, ha, e.cell hc⟩
theorem nats_of {w : World} {b : Nat} {v : Value} {l : List Nat} (h : w.ownsRow b 3 1 v l.length (intsOf l)) : ∃ A c, v = .slice A l.length c ∧ l.length ≤ c ∧ Nats w A l := by
  rcases h.2 with ⟨rfl, h0⟩ | ⟨g, cap, cur, rfl, _, _, hc, _⟩
  · exact ⟨none, 0, by rw [h0], by omega, fun i hi => absurd hi (by omega)⟩
  · refine ⟨some ⟨g, 0, none⟩, cap, rfl, hc, fun i hi => ⟨_, rfl, ?_⟩⟩
    have := h.cells (g := g) rfl i (.int .i64 (l[i] : Int)) (by simp [intsOf, hi])
    exact this

theorem mem_memsTo {ns : List ByteArray} {j i : Nat} : i ∈ memsTo ns j ↔ i < j ∧ mem ns (ns.getD i ⟨#[]⟩) = some i := by
  simp [memsTo]

end Go.Proofs.YtgkjdgolffnagaaGreatDoor
