/- Parts of the proof of the statement that this folder hands in: lemmas and contracts (Ma). -/
import Derived.Test.YtcfgjmdfpnfkjaaGreatDoorA
import Derived.Maps.RangeWalk
set_option linter.unusedSimpArgs false
set_option linter.unusedVariables false
namespace Go.Proofs.YtcfgjmdfpnfkjaaGreatDoor
open Go.RowKit
open Go.MapKept
open Go.ChangeMaps (setBlock modify_eq_set)

/-- A map's entries, keyed by strings. -/
structure Ents (es : Array MapEntry) (clock : Nat) : Prop where
  st : Stamped es clock
  keys : ∀ x ∈ es.toList, ∃ s, x.key = .string s

theorem Ents.isKey {es clock} (F : Ents es clock) : ∀ x ∈ es.toList, IsKey .string x.key := fun x hx => by
  obtain ⟨s, e⟩ := F.keys x hx
  rw [e]; trivial
theorem Ents.empty : Ents #[] 0 := ⟨stamped_empty 0, by simp⟩

theorem Ents.one {es clock} (F : Ents es clock) {x y : MapEntry} (hx : x ∈ es.toList) (hy : y ∈ es.toList) (h : x.key = y.key) : x = y := by
  obtain ⟨i, hi, rfl⟩ := List.getElem_of_mem hx
  obtain ⟨j, hj, rfl⟩ := List.getElem_of_mem hy
  have hn := F.st.2.2
  by_cases e : i = j
  · subst e; rfl
  · exfalso
    have := List.pairwise_iff_getElem.1 hn
    rcases Nat.lt_or_gt_of_ne e with hl | hl
    · exact this i j (by simpa using hi) (by simpa using hj) hl (by simpa using h)
    · exact this j i (by simpa using hj) (by simpa using hi) hl (by simpa using h.symm)

theorem Ents.store {P : Program} {w : World} {b : Nat} {t k e : TypeId} {es : Array MapEntry} {clock : Nat} (F : Ents es clock) (hb : w.heap[b]? = some (.map es clock))
    (ht : P.underlying t = some (.map k e)) (hk : P.underlying k = some .string) (s : ByteArray) (val : Value) :
    ∃ es' clock', (Instr.mapUpdate t (.map (some b)) (.string s) val).run P w = .ok () (setBlock w b (.map es' clock')) ∧ Ents es' clock' ∧
      (∃ x ∈ es'.toList, x.key = .string s) ∧ (∀ x ∈ es.toList, ∃ x' ∈ es'.toList, x'.key = x.key) ∧
      ∀ x' ∈ es'.toList, (x' ∈ es.toList ∧ x'.key ≠ .string s) ∨ (x'.key = .string s ∧ x'.val = val) := by
  have kk : IsKey .string (.string s) := trivial
  rcases findNow_spec kk es.toList 0 F.isKey with ⟨h1, h2⟩ | ⟨j, e0, h1, h2, h3⟩
  · refine ⟨es.push ⟨.string s, val, clock⟩, clock + 1, ?_, ⟨stamped_push F.st h2, ?_⟩, ⟨⟨.string s, val, clock⟩, by simp, rfl⟩, fun x hx => ⟨x, by simp at hx ⊢; exact .inl hx, rfl⟩, ?_⟩
    · simp [Instr.mapUpdate, run_underlying ht, MapKept.run_getObj_map hb, MapKept.run_checkKey hk kk, MapKept.run_findKey hk h1, MapKept.run_setObj_map _ hb, Result.andThen, setBlock]
    · intro x hx
      simp only [Array.toList_push, List.mem_append, List.mem_singleton] at hx
      rcases hx with hx | rfl
      · exact F.keys x hx
      · exact ⟨s, rfl⟩
    · intro x' hx'
      simp only [Array.toList_push, List.mem_append, List.mem_singleton] at hx'
      rcases hx' with hx' | rfl
      · exact .inl ⟨hx', h2 x' hx'⟩
      · exact .inr ⟨rfl, rfl⟩
  · have hj : es[j]? = some e0 := by simpa using h2
    have hjl : j < es.toList.length := (List.getElem?_eq_some_iff.1 h2).1
    have hje : es.toList[j] = e0 := (List.getElem?_eq_some_iff.1 h2).2
    have hlist : (es.modify j (fun e' => { e' with key := .string s, val := val })).toList = es.toList.set j { e0 with key := .string s, val := val } := by rw [Array.toList_modify, modify_eq_set _ _ _ _ h2]
    have who : ∀ x ∈ es.toList.set j { e0 with key := .string s, val := val }, x = { e0 with key := .string s, val := val } ∨ (x ∈ es.toList ∧ x.key ≠ .string s) := by
      intro x hx
      obtain ⟨i, hi, ex⟩ := List.getElem_of_mem hx
      rw [List.getElem_set] at ex
      split at ex
      · exact .inl ex.symm
      · rename_i hne
        have hi' : i < es.toList.length := by simpa using hi
        refine .inr ⟨ex ▸ List.getElem_mem hi', fun hkk => ?_⟩
        have : x = e0 := F.one (ex ▸ List.getElem_mem hi') (List.mem_of_getElem? h2) (hkk.trans h3.symm)
        rw [← hje, ← ex] at this
        have nd : es.toList.Nodup := by
          have := F.st.2.2
          exact List.Pairwise.of_map (f := fun e : MapEntry => e.key) (fun a b h e => h (by rw [e])) this
        rcases Nat.lt_or_gt_of_ne hne with hl | hl
        · exact (List.pairwise_iff_getElem.1 nd) j i hjl hi' hl this.symm
        · exact (List.pairwise_iff_getElem.1 nd) i j hi' hjl hl this
    refine ⟨es.modify j (fun e' => { e' with key := .string s, val := val }), clock, ?_, ⟨stamped_modify F.st _ _ (fun _ _ => rfl) (fun e' _ he' => by rw [hj] at he'; cases he'; exact h3.symm), ?_⟩, ?_, ?_, ?_⟩
    · simp [Instr.mapUpdate, run_underlying ht, MapKept.run_getObj_map hb, MapKept.run_checkKey hk kk, MapKept.run_findKey hk h1, hj, h3, MapKept.run_keyThatStays kk, MapKept.run_setObj_map _ hb, Result.andThen, setBlock]
    · intro x hx
      rw [hlist] at hx
      rcases who x hx with rfl | ⟨hx', _⟩
      · exact ⟨s, rfl⟩
      · exact F.keys x hx'
    · rw [hlist]
      exact ⟨_, List.mem_iff_getElem.2 ⟨j, by simpa using hjl, by simp; rfl⟩, rfl⟩
    · intro x hx
      obtain ⟨i, hi, rfl⟩ := List.getElem_of_mem hx
      rw [hlist]
      by_cases hij : j = i
      · subst hij
        exact ⟨_, List.mem_iff_getElem.2 ⟨j, by simpa using hjl, by simp; rfl⟩, by rw [hje]; exact h3.symm⟩
      · exact ⟨es.toList[i], List.mem_iff_getElem.2 ⟨i, by simpa using hi, by simp [List.getElem_set, hij]⟩, rfl⟩
    · intro x' hx'
      rw [hlist] at hx'
      rcases who x' hx' with rfl | h
      · exact .inr ⟨rfl, rfl⟩
      · exact .inl h

theorem Ents.look {P : Program} {w : World} {b : Nat} {t k e : TypeId} {es : Array MapEntry} {clock : Nat} {z : Value} (c : Bool) (F : Ents es clock) (hb : w.heap[b]? = some (.map es clock))
    (ht : P.underlying t = some (.map k e)) (hk : P.underlying k = some .string) (hz : (zeroValue e).run P w = .ok z w) (s : ByteArray) :
    ((Instr.lookup t (.map (some b)) (.string s) c).run P w = .ok (if c then .tuple #[z, .bool false] else z) w ∧ (∀ x ∈ es.toList, x.key ≠ .string s)) ∨
    ∃ e0 ∈ es.toList, e0.key = .string s ∧ (Instr.lookup t (.map (some b)) (.string s) c).run P w = .ok (if c then .tuple #[e0.val, .bool true] else e0.val) w := by
  have kk : IsKey .string (.string s) := trivial
  rcases findNow_spec kk es.toList 0 F.isKey with ⟨h1, h2⟩ | ⟨j, e0, h1, h2, h3⟩
  · exact .inl ⟨by simp [Instr.lookup, run_underlying ht, MapKept.run_getObj_map hb, MapKept.run_checkKey hk kk, MapKept.run_findKey hk h1, hz, Result.andThen], h2⟩
  · exact .inr ⟨e0, List.mem_of_getElem? h2, h3, by simp [Instr.lookup, run_underlying ht, MapKept.run_getObj_map hb, MapKept.run_checkKey hk kk, MapKept.run_findKey hk h1, Result.andThen]⟩

section
variable {P : Program} (w : World) {ops : Array Oper} {rest : List Oper} {o : Oper} {a : Act} {Q : Exit → Act → World → Prop}

theorem wp_store (hg : o.guard = none) (m x v : Operand) (t : TypeId) (hop : o.op = Op.mapUpdate t m x v) (k e : TypeId) (ht : P.underlying t = some (.map k e)) (hk : P.underlying k = some .string)
    {es : Array MapEntry} {clock : Nat} (b : Nat) (F : Ents es clock) (hb : w.heap[b]? = some (.map es clock)) (s : ByteArray) (val : Value)
    (hm : a.eval m = .map (some b)) (hx : a.eval x = .string s) (hv : a.eval v = val)
    (hK : ∀ es' clock', Ents es' clock' → (∃ x ∈ es'.toList, x.key = .string s) → (∀ x ∈ es.toList, ∃ x' ∈ es'.toList, x'.key = x.key) →
      (∀ x' ∈ es'.toList, (x' ∈ es.toList ∧ x'.key ≠ .string s) ∨ (x'.key = .string s ∧ x'.val = val)) → wpList P ops Q rest (a.put o.dst undef) (setBlock w b (.map es' clock'))) :
    wpList P ops Q (o :: rest) a w := by
  refine wpList_plain hg fun K' hK' => ?_
  obtain ⟨es', clock', hrun, r1, r2, r3, r4⟩ := F.store hb ht hk s val
  unfold Oper.wp
  simp [execOp, hop, hm, hx, hv, hrun, Result.andThen]
  exact hK' _ _ (hK es' clock' r1 r2 r3 r4)

theorem wp_look (hg : o.guard = none) (m x : Operand) (t : TypeId) (hop : o.op = Op.lookup t m x true) (k e : TypeId) (ht : P.underlying t = some (.map k e)) (hk : P.underlying k = some .string)
    {z : Value} (hz : ∀ w, (zeroValue e).run P w = .ok z w)
    {es : Array MapEntry} {clock : Nat} (b : Nat) (F : Ents es clock) (hb : w.heap[b]? = some (.map es clock)) (s : ByteArray)
    (hm : a.eval m = .map (some b)) (hx : a.eval x = .string s)
    (hNone : (∀ x ∈ es.toList, x.key ≠ .string s) → wpList P ops Q rest (a.put o.dst (.tuple #[z, .bool false])) w)
    (hSome : ∀ e0 ∈ es.toList, e0.key = .string s → wpList P ops Q rest (a.put o.dst (.tuple #[e0.val, .bool true])) w) :
    wpList P ops Q (o :: rest) a w := by
  refine wpList_plain hg fun K' hK' => ?_
  unfold Oper.wp
  rcases F.look true hb ht hk (hz w) s with ⟨hrun, h⟩ | ⟨e0, he, hke, hrun⟩
  · simp [execOp, hop, hm, hx, hrun, Result.andThen]
    exact hK' _ _ (hNone h)
  · simp [execOp, hop, hm, hx, hrun, Result.andThen]
    exact hK' _ _ (hSome e0 he hke)

theorem wp_range (hg : o.guard = none) (m : Operand) (t : TypeId) (hop : o.op = Op.range t m) (k e : TypeId) (ht : P.underlying t = some (.map k e))
    {es : Array MapEntry} {clock : Nat} (b : Nat) (hb : w.heap[b]? = some (.map es clock)) (hm : a.eval m = .map (some b))
    (hK : wpList P ops Q rest (a.put o.dst (.pointer (some ⟨w.heap.size, 0, none⟩))) (w.alloc (.mapIter (some b) clock #[] clock))) :
    wpList P ops Q (o :: rest) a w := by
  refine wpList_plain hg fun K' hK' => ?_
  unfold Oper.wp
  simp [execOp, hop, hm, run_range_map w t k e b es clock ht hb, Result.andThen]
  exact hK' _ _ hK

theorem wp_next (hg : o.guard = none) (it : Operand) (hop : o.op = Op.next it false) (b r : Nat) {es : Array MapEntry} {clock : Nat} {seen : Array Nat} (F : Ents es clock)
    (hb : w.heap[b]? = some (.map es clock)) (hr : w.heap[r]? = some (.mapIter (some b) clock seen clock)) (hit : a.eval it = .pointer (some ⟨r, 0, none⟩))
    (hDone : (∀ x ∈ es.toList, x.born ∈ seen) → wpList P ops Q rest (a.put o.dst (.tuple #[.bool false])) w)
    (hMore : ∀ (e : MapEntry) (w1 : World) (s : ByteArray), e ∈ es.toList → e.born ∉ seen → e.key = .string s → (w1 = w ∨ w1 = w.drew) →
      (Instr.entry (.pointer (some ⟨r, 0, none⟩))).run P (setBlock w1 r (.mapIter (some b) clock (seen.push e.born) clock)) = .ok (.tuple #[.string s, e.val]) (setBlock w1 r (.mapIter (some b) clock (seen.push e.born) clock)) →
      wpList P ops Q rest (a.put o.dst (.tuple #[.bool true, .string s, e.val])) (setBlock w1 r (.mapIter (some b) clock (seen.push e.born) clock))) :
    wpList P ops Q (o :: rest) a w := by
  refine wpList_plain hg fun K' hK' => ?_
  unfold Oper.wp
  rcases run_next_at (P := P) w o.type r b clock clock seen es clock hr hb F.st.1 (Nat.le_refl _) with ⟨h0, hrun⟩ | ⟨e, he, w1, hw1, hrun⟩
  · simp [execOp, hop, hit, hrun, Result.andThen]
    refine hK' _ _ (hDone fun x hx => ?_)
    have : leftOf es seen = #[] := Array.eq_empty_of_size_eq_zero h0
    unfold leftOf at this
    rw [Array.filter_eq_empty_iff] at this
    simpa using this x (by simpa using hx)
  · have hm : e ∈ es.toList ∧ e.born ∉ seen := by
      unfold leftOf at he
      simpa using he
    obtain ⟨s, hs⟩ := F.keys e hm.1
    rw [hs] at hrun
    simp [execOp, hop, hit, hrun, Result.andThen]
    refine hK' _ _ (hMore e w1 s hm.1 hm.2 hs hw1 ?_)
    have hlt : r < w.heap.size := (Array.getElem?_eq_some_iff.1 hr).1
    have hne : r ≠ b := by rintro rfl; rw [hb] at hr; cases hr
    have hh : w1.heap = w.heap := by rcases hw1 with rfl | rfl <;> rfl
    have := run_entry_at (P := P) (setBlock w1 r (.mapIter (some b) clock (seen.push e.born) clock)) r b clock seen es clock e (by simp [setBlock, hh, hlt]) (by simp [setBlock, hh, hne, hb]) hm.1 F.st.2.1
    rw [hs] at this
    exact this

end

theorem zero20 (w : World) : (zeroValue 20).run Tryz.prog w = .ok .nilIface w := by
  kernel_rfl

end Go.Proofs.YtcfgjmdfpnfkjaaGreatDoor
