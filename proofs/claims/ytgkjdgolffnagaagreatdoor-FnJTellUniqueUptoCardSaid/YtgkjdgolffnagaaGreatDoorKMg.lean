/- Parts of the proof of the statement that this folder hands in: lemmas and contracts (K, L). -/
import Derived.Test.YtgkjdgolffnagaaGreatDoorJMg
import Derived.Maps.RangeWalk
set_option linter.unusedSimpArgs false
set_option linter.unusedVariables false
namespace Go.Proofs.YtgkjdgolffnagaaGreatDoor
open Go.RowKit
open Go.MapKept
open Go.ChangeMaps (setBlock modify_eq_set)

/-- A map's entries, keyed by strings. -/
structure Ents (es : Array MapEntry) (clock : Nat) : Prop where
  st : Stamped es clock
  keys : ∀ x ∈ es.toList, ∃ s, x.key = .string s

theorem Ents.isKey {es clock} (F : Ents es clock) : ∀ x ∈ es.toList, IsKey .string x.key := fun x hx => by
  obtain ⟨s, e⟩ := F.keys x hx
  rw [e]; trivial
theorem Ents.empty : Ents #[] 0 := ⟨stamped_empty 0, by simp⟩

theorem Ents.one {es clock} (F : Ents es clock) {x y : MapEntry} (hx : x ∈ es.toList) (hy : y ∈ es.toList) (h : x.key = y.key) : x = y := by
  obtain ⟨i, hi, rfl⟩ := List.getElem_of_mem hx
  obtain ⟨j, hj, rfl⟩ := List.getElem_of_mem hy
  have hn := F.st.2.2
  by_cases e : i = j
  · subst e; rfl
  · exfalso
    have := List.pairwise_iff_getElem.1 hn
    rcases Nat.lt_or_gt_of_ne e with hl | hl
    · exact this i j (by simpa using hi) (by simpa using hj) hl (by simpa using h)
    · exact this j i (by simpa using hj) (by simpa using hi) hl (by simpa using h.symm)

theorem Ents.store {P : Program} {w : World} {b : Nat} {t k e : TypeId} {es : Array MapEntry} {clock : Nat} (F : Ents es clock) (hb : w.heap[b]? = some (.map es clock))
    (ht : P.underlying t = some (.map k e)) (hk : P.underlying k = some .string) (s : ByteArray) (val : Value) :
    ∃ es' clock', (Instr.mapUpdate t (.map (some b)) (.string s) val).run P w = .ok () (setBlock w b (.map es' clock')) ∧ Ents es' clock' ∧
      (∃ x ∈ es'.toList, x.key = .string s) ∧ (∀ x ∈ es.toList, ∃ x' ∈ es'.toList, x'.key = x.key) ∧
      ∀ x' ∈ es'.toList, (x' ∈ es.toList ∧ x'.key ≠ .string s) ∨ (x'.key = .string s ∧ x'.val = val) := by
  have kk : IsKey .string (.string s) := trivial
  rcases findNow_spec kk es.toList 0 F.isKey with ⟨h1, h2⟩ | ⟨j, e0, h1, h2, h3⟩
  · refine ⟨es.push ⟨.string s, val, clock⟩, clock + 1, ?_, ⟨stamped_push F.st h2, ?_⟩, ⟨⟨.string s, val, clock⟩, by simp, rfl⟩, fun x hx => ⟨x, by simp at hx ⊢; exact .inl hx, rfl⟩, ?_⟩
    · simp [Instr.mapUpdate, run_underlying ht, MapKept.run_getObj_map hb, MapKept.run_checkKey hk kk, MapKept.run_findKey hk h1, MapKept.run_setObj_map _ hb, Result.andThen, setBlock]
    · intro x hx
      simp only [Array.toList_push, List.mem_append, List.mem_singleton] at hx
      rcases hx with hx | rfl
      · exact F.keys x hx
      · exact ⟨s, rfl⟩
    · intro x' hx'
      simp only [Array.toList_push, List.mem_append, List.mem_singleton] at hx'
      rcases hx' with hx' | rfl
      · exact .inl ⟨hx', h2 x' hx'⟩
      · exact .inr ⟨rfl, rfl⟩
  · have hj : es[j]? = some e0 := by simpa using h2
    have hjl : j < es.toList.length := (List.getElem?_eq_some_iff.1 h2).1
    have hje : es.toList[j] = e0 := (List.getElem?_eq_some_iff.1 h2).2
    have hlist : (es.modify j (fun e' => { e' with key := .string s, val := val })).toList = es.toList.set j { e0 with key := .string s, val := val } := by rw [Array.toList_modify, modify_eq_set _ _ _ _ h2]
    have who : ∀ x ∈ es.toList.set j { e0 with key := .string s, val := val }, x = { e0 with key := .string s, val := val } ∨ (x ∈ es.toList ∧ x.key ≠ .string s) := by
      intro x hx
      obtain ⟨i, hi, ex⟩ := List.getElem_of_mem hx
      rw [List.getElem_set] at ex
      split at ex
      · exact .inl ex.symm
      · rename_i hne
        have hi' : i < es.toList.length := by simpa using hi
        refine .inr ⟨ex ▸ List.getElem_mem hi', fun hkk => ?_⟩
        have : x = e0 := F.one (ex ▸ List.getElem_mem hi') (List.mem_of_getElem? h2) (hkk.trans h3.symm)
        rw [← hje, ← ex] at this
        have nd : es.toList.Nodup := by
          have := F.st.2.2
          exact List.Pairwise.of_map (f := fun e : MapEntry => e.key) (fun a b h e => h (by rw [e])) this
        rcases Nat.lt_or_gt_of_ne hne with hl | hl
        · exact (List.pairwise_iff_getElem.1 nd) j i hjl hi' hl this.symm
        · exact (List.pairwise_iff_getElem.1 nd) i j hi' hjl hl this
    refine ⟨es.modify j (fun e' => { e' with key := .string s, val := val }), clock, ?_, ⟨stamped_modify F.st _ _ (fun _ _ => rfl) (fun e' _ he' => by rw [hj] at he'; cases he'; exact h3.symm), ?_⟩, ?_, ?_, ?_⟩
    · simp [Instr.mapUpdate, run_underlying ht, MapKept.run_getObj_map hb, MapKept.run_checkKey hk kk, MapKept.run_findKey hk h1, hj, h3, MapKept.run_keyThatStays kk, MapKept.run_setObj_map _ hb, Result.andThen, setBlock]
    · intro x hx
      rw [hlist] at hx
      rcases who x hx with rfl | ⟨hx', _⟩
      · exact ⟨s, rfl⟩
      · exact F.keys x hx'
    · rw [hlist]
      exact ⟨_, List.mem_iff_getElem.2 ⟨j, by simpa using hjl, by simp; rfl⟩, rfl⟩
    · intro x hx
      obtain ⟨i, hi, rfl⟩ := List.getElem_of_mem hx
      rw [hlist]
      by_cases hij : j = i
      · subst hij
        exact ⟨_, List.mem_iff_getElem.2 ⟨j, by simpa using hjl, by simp; rfl⟩, by rw [hje]; exact h3.symm⟩
      · exact ⟨es.toList[i], List.mem_iff_getElem.2 ⟨i, by simpa using hi, by simp [List.getElem_set, hij]⟩, rfl⟩
    · intro x' hx'
      rw [hlist] at hx'
      rcases who x' hx' with rfl | h
      · exact .inr ⟨rfl, rfl⟩
      · exact .inl h

theorem Ents.look {P : Program} {w : World} {b : Nat} {t k e : TypeId} {es : Array MapEntry} {clock : Nat} {z : Value} (c : Bool) (F : Ents es clock) (hb : w.heap[b]? = some (.map es clock))
    (ht : P.underlying t = some (.map k e)) (hk : P.underlying k = some .string) (hz : (zeroValue e).run P w = .ok z w) (s : ByteArray) :
    ((Instr.lookup t (.map (some b)) (.string s) c).run P w = .ok (if c then .tuple #[z, .bool false] else z) w ∧ (∀ x ∈ es.toList, x.key ≠ .string s)) ∨
    ∃ e0 ∈ es.toList, e0.key = .string s ∧ (Instr.lookup t (.map (some b)) (.string s) c).run P w = .ok (if c then .tuple #[e0.val, .bool true] else e0.val) w := by
  have kk : IsKey .string (.string s) := trivial
  rcases findNow_spec kk es.toList 0 F.isKey with ⟨h1, h2⟩ | ⟨j, e0, h1, h2, h3⟩
  · exact .inl ⟨by simp [Instr.lookup, run_underlying ht, MapKept.run_getObj_map hb, MapKept.run_checkKey hk kk, MapKept.run_findKey hk h1, hz, Result.andThen], h2⟩
  · exact .inr ⟨e0, List.mem_of_getElem? h2, h3, by simp [Instr.lookup, run_underlying ht, MapKept.run_getObj_map hb, MapKept.run_checkKey hk kk, MapKept.run_findKey hk h1, Result.andThen]⟩

section
variable {P : Program} (w : World) {ops : Array Oper} {rest : List Oper} {o : Oper} {a : Act} {Q : Exit → Act → World → Prop}

theorem wp_store (hg : o.guard = none) (m x v : Operand) (t : TypeId) (hop : o.op = Op.mapUpdate t m x v) (k e : TypeId) (ht : P.underlying t = some (.map k e)) (hk : P.underlying k = some .string)
    {es : Array MapEntry} {clock : Nat} (b : Nat) (F : Ents es clock) (hb : w.heap[b]? = some (.map es clock)) (s : ByteArray) (val : Value)
    (hm : a.eval m = .map (some b)) (hx : a.eval x = .string s) (hv : a.eval v = val)
    (hK : ∀ es' clock', Ents es' clock' → (∃ x ∈ es'.toList, x.key = .string s) → (∀ x ∈ es.toList, ∃ x' ∈ es'.toList, x'.key = x.key) →
      (∀ x' ∈ es'.toList, (x' ∈ es.toList ∧ x'.key ≠ .string s) ∨ (x'.key = .string s ∧ x'.val = val)) → wpList P ops Q rest (a.put o.dst undef) (setBlock w b (.map es' clock'))) :
    wpList P ops Q (o :: rest) a w := by
  refine wpList_plain hg fun K' hK' => ?_
  obtain ⟨es', clock', hrun, r1, r2, r3, r4⟩ := F.store hb ht hk s val
  unfold Oper.wp
  simp [execOp, hop, hm, hx, hv, hrun, Result.andThen]
  exact hK' _ _ (hK es' clock' r1 r2 r3 r4)

theorem wp_look (hg : o.guard = none) (m x : Operand) (t : TypeId) (hop : o.op = Op.lookup t m x true) (k e : TypeId) (ht : P.underlying t = some (.map k e)) (hk : P.underlying k = some .string)
    {z : Value} (hz : ∀ w, (zeroValue e).run P w = .ok z w)
    {es : Array MapEntry} {clock : Nat} (b : Nat) (F : Ents es clock) (hb : w.heap[b]? = some (.map es clock)) (s : ByteArray)
    (hm : a.eval m = .map (some b)) (hx : a.eval x = .string s)
    (hNone : (∀ x ∈ es.toList, x.key ≠ .string s) → wpList P ops Q rest (a.put o.dst (.tuple #[z, .bool false])) w)
    (hSome : ∀ e0 ∈ es.toList, e0.key = .string s → wpList P ops Q rest (a.put o.dst (.tuple #[e0.val, .bool true])) w) :
    wpList P ops Q (o :: rest) a w := by
  refine wpList_plain hg fun K' hK' => ?_
  unfold Oper.wp
  rcases F.look true hb ht hk (hz w) s with ⟨hrun, h⟩ | ⟨e0, he, hke, hrun⟩
  · simp [execOp, hop, hm, hx, hrun, Result.andThen]
    exact hK' _ _ (hNone h)
  · simp [execOp, hop, hm, hx, hrun, Result.andThen]
    exact hK' _ _ (hSome e0 he hke)

theorem wp_range (hg : o.guard = none) (m : Operand) (t : TypeId) (hop : o.op = Op.range t m) (k e : TypeId) (ht : P.underlying t = some (.map k e))
    {es : Array MapEntry} {clock : Nat} (b : Nat) (hb : w.heap[b]? = some (.map es clock)) (hm : a.eval m = .map (some b))
    (hK : wpList P ops Q rest (a.put o.dst (.pointer (some ⟨w.heap.size, 0, none⟩))) (w.alloc (.mapIter (some b) clock #[] clock))) :
    wpList P ops Q (o :: rest) a w := by
  refine wpList_plain hg fun K' hK' => ?_
  unfold Oper.wp
  simp [execOp, hop, hm, run_range_map w t k e b es clock ht hb, Result.andThen]
  exact hK' _ _ hK

theorem wp_next (hg : o.guard = none) (it : Operand) (hop : o.op = Op.next it false) (b r : Nat) {es : Array MapEntry} {clock : Nat} {seen : Array Nat} (F : Ents es clock)
    (hb : w.heap[b]? = some (.map es clock)) (hr : w.heap[r]? = some (.mapIter (some b) clock seen clock)) (hit : a.eval it = .pointer (some ⟨r, 0, none⟩))
    (hDone : (∀ x ∈ es.toList, x.born ∈ seen) → wpList P ops Q rest (a.put o.dst (.tuple #[.bool false])) w)
    (hMore : ∀ (e : MapEntry) (w1 : World) (s : ByteArray), e ∈ es.toList → e.born ∉ seen → e.key = .string s → (w1 = w ∨ w1 = w.drew) →
      (Instr.entry (.pointer (some ⟨r, 0, none⟩))).run P (setBlock w1 r (.mapIter (some b) clock (seen.push e.born) clock)) = .ok (.tuple #[.string s, e.val]) (setBlock w1 r (.mapIter (some b) clock (seen.push e.born) clock)) →
      wpList P ops Q rest (a.put o.dst (.tuple #[.bool true, .string s, e.val])) (setBlock w1 r (.mapIter (some b) clock (seen.push e.born) clock))) :
    wpList P ops Q (o :: rest) a w := by
  refine wpList_plain hg fun K' hK' => ?_
  unfold Oper.wp
  rcases run_next_at (P := P) w o.type r b clock clock seen es clock hr hb F.st.1 (Nat.le_refl _) with ⟨h0, hrun⟩ | ⟨e, he, w1, hw1, hrun⟩
  · simp [execOp, hop, hit, hrun, Result.andThen]
    refine hK' _ _ (hDone fun x hx => ?_)
    have : leftOf es seen = #[] := Array.eq_empty_of_size_eq_zero h0
    unfold leftOf at this
    rw [Array.filter_eq_empty_iff] at this
    simpa using this x (by simpa using hx)
  · have hm : e ∈ es.toList ∧ e.born ∉ seen := by
      unfold leftOf at he
      simpa using he
    obtain ⟨s, hs⟩ := F.keys e hm.1
    rw [hs] at hrun
    simp [execOp, hop, hit, hrun, Result.andThen]
    refine hK' _ _ (hMore e w1 s hm.1 hm.2 hs hw1 ?_)
    have hlt : r < w.heap.size := (Array.getElem?_eq_some_iff.1 hr).1
    have hne : r ≠ b := by rintro rfl; rw [hb] at hr; cases hr
    have hh : w1.heap = w.heap := by rcases hw1 with rfl | rfl <;> rfl
    have := run_entry_at (P := P) (setBlock w1 r (.mapIter (some b) clock (seen.push e.born) clock)) r b clock seen es clock e (by simp [setBlock, hh, hlt]) (by simp [setBlock, hh, hne, hb]) hm.1 F.st.2.1
    rw [hs] at this
    exact this

end

theorem zero20 (w : World) : (zeroValue 20).run Tryz.prog w = .ok .nilIface w := by
  kernel_rfl

end Go.Proofs.YtgkjdgolffnagaaGreatDoor
set_option linter.unusedVariables false
namespace Go.Proofs.YtgkjdgolffnagaaGreatDoor
open Go.RowKit
open Go.ChangeMaps (setBlock)

/-- A value as the validator takes it; its memory lies in blocks of N. -/
inductive Any (w : World) (N : Nat → Prop) : Value → JV → Prop
  | nul (k : Int) (b n t ns is) : k ≠ 1 → k ≠ 2 → k ≠ 3 → k ≠ 4 → k ≠ 5 → Any w N .nilIface (.mk k b n t ns is)
  | bool (k : Int) (b n t ns is) : k = 1 → Any w N (.iface 4 (.bool b)) (.mk k b n t ns is)
  | text (k : Int) (b n t ns is) : k = 3 → t.size ≤ 1048576 → Any w N (.iface 9 (.string t)) (.mk k b n t ns is)
  | list (k : Int) (b n t ns is) (A : Option Addr) (c : Nat) (xs : Nat → Value) : k = 4 → is.length ≤ 1048576 →
      (∀ i, i < is.length → ∃ ad, A = some ad ∧ N ad.block ∧ w.cell? (ad.add i) = some (xs i)) → (∀ i (h : i < is.length), Any w N (xs i) is[i]) →
      Any w N (.iface 112 (.slice A is.length c)) (.mk k b n t ns is)
  | obj (k : Int) (b n t ns is) (r : Nat) (es : Array MapEntry) (clock : Nat) (q : MapEntry → Nat) : k = 5 → N r → w.heap[r]? = some (.map es clock) → Ents es clock →
      (∀ e ∈ es.toList, ∃ s, e.key = .string s ∧ mem ns s = some (q e) ∧ q e < is.length) → (∀ e ∈ es.toList, ∀ h : q e < is.length, Any w N e.val is[q e]) →
      (∀ s ∈ ns, ∃ e ∈ es.toList, e.key = .string s) → Any w N (.iface 108 (.map (some r))) (.mk k b n t ns is)

theorem cell_block {w w' : World} {a : Addr} {v : Value} (h : w.cell? a = some v) (e : w'.heap[a.block]? = w.heap[a.block]?) : w'.cell? a = some v := by
  rw [← h]; simp only [World.cell?, e]

theorem add_block (a : Addr) (i : Nat) : (a.add i).block = a.block := by
  unfold Addr.add; split <;> rfl

/-- What lies outside of N may have changed. -/
theorem Any.keep {w w' : World} {N N' : Nat → Prop} {x : Value} {v : JV} (h : Any w N x v) (e : ∀ k, N k → k < w.heap.size → w'.heap[k]? = w.heap[k]? ∧ N' k) : Any w' N' x v := by
  induction h with
  | nul k b n t ns is h1 h2 h3 h4 h5 => exact .nul _ _ _ _ _ _ h1 h2 h3 h4 h5
  | bool k b n t ns is h => exact .bool _ _ _ _ _ _ h
  | text k b n t ns is h hs => exact .text _ _ _ _ _ _ h hs
  | list k b n t ns is A c xs h hl hc _ ih =>
    refine .list _ _ _ _ _ _ A c xs h hl (fun i hi => ?_) ih
    obtain ⟨ad, ha, hN, hcell⟩ := hc i hi
    have hlt := World.block_lt_of_cell? w _ hcell
    rw [add_block] at hlt
    obtain ⟨e1, e2⟩ := e _ hN hlt
    exact ⟨ad, ha, e2, cell_block hcell (by rw [add_block]; exact e1)⟩
  | obj k b n t ns is r es clock q h hN hb F hk _ hn ih =>
    obtain ⟨e1, e2⟩ := e _ hN (Array.getElem?_eq_some_iff.1 hb).1
    exact .obj _ _ _ _ _ _ r es clock q h e2 (by rw [e1]; exact hb) F hk ih hn

theorem Any.ext {w w' : World} {N : Nat → Prop} {x : Value} {v : JV} (h : Any w N x v) (e : Ext w w') : Any w' N x v :=
  h.keep fun k hN hk => ⟨e.block k hk, hN⟩

def Given (w : World) (v : JV) (e : Ending) (w' : World) : Prop := (∃ x, e = .returned x ∧ Any w' (fun k => w.heap.size ≤ k) x v) ∧ Ext w w'
def OfC (v : JV) : Prop := ∀ cs w, v.At w cs → Calls Tryz.prog 28 #[.agg cs.toArray] w (Given w v)

/-- A row of values. -/
def Row (w : World) (N : Nat → Prop) (A : Option Addr) (is : List JV) (x : Nat → Value) : Prop :=
  (∀ i, i < is.length → ∃ ad, A = some ad ∧ N ad.block ∧ w.cell? (ad.add i) = some (x i)) ∧ ∀ i (h : i < is.length), Any w N (x i) is[i]
def GivenRow (w : World) (is : List JV) (e : Ending) (w' : World) : Prop := (∃ A c x, e = .returned (.slice A is.length c) ∧ Row w' (fun k => w.heap.size ≤ k) A is x) ∧ Ext w w'

theorem info20 : (Tryz.prog.info? 20).map (fun i => (i.zero, i.size, i.bytes)) = some (some .nilIface, 1, 16) := by kernel_rfl

theorem Any.shape {w : World} {N : Nat → Prop} {x : Value} {v : JV} (h : Any w N x v) : x = .nilIface ∨ ∃ d y, x = .iface d y := by
  cases h
  · exact .inl rfl
  all_goals exact .inr ⟨_, _, rfl⟩
theorem Any.one {w : World} {N : Nat → Prop} {x : Value} {v : JV} (h : Any w N x v) : x.oneCell' = true := by cases h <;> rfl

set_option maxHeartbeats 1000000 in
set_option maxRecDepth 100000 in
theorem ofRow_c (is : List JV) (ih : ∀ i (h : i < is.length), OfC is[i]) (B : Option Addr) (c : Nat) (w : World) (hl : is.length ≤ 1048576) (h : JV.All w B 0 is) :
    Calls Tryz.prog 53 #[.slice B is.length c] w (GivenRow w is) := by
  have IH := Sd.mk ih
  have H := Sd.mk h
  clear h ih
  obtain ⟨i0, hi, hz0, hz1, hz2⟩ := info_parts info20
  go_enter Tryz.func53, Tryz.ntmps53
  go_wp2_with fail
  go_loopg [3, 9] is.length (fun g v3 v9 wr => ∃ (j : Nat) (xs : List Value), v9 = .int .i64 j ∧ xs.length = j ∧ g + j = is.length ∧ Sd (Ext w wr) ∧
    Sd (wr.ownsRow w.heap.size 20 1 v3 xs.length xs) ∧ Sd (∀ i (h : i < is.length), i < j → Any wr (fun k => w.heap.size ≤ k ∧ v3.ownBlock ≠ some k) (xs.getD i .nilIface) is[i]))
  case atStart =>
    refine ⟨0, [], rfl, rfl, rfl, ⟨(Ext.refl _).alloc _⟩, ⟨⟨by simp, .inr ⟨w.heap.size, 0, #[], rfl, Nat.le_refl _, box_alloc _ _, by simp, by simp, by simp, by simp⟩⟩⟩, ⟨fun i _ h => absurd h (by omega)⟩⟩
  case round =>
    obtain ⟨j, xs, rfl, hxl, hg, HE, HO, HA⟩ := hrel
    by_cases hj : j < is.length
    · obtain ⟨ad, A', c', D', d', rfl, e0, e1, e2, e3, e4, e5, hAt⟩ := (H.out.ext HE.out).elem j hj
      have HAt := Sd.mk hAt
      clear hAt
      go_wp2_with fail
      refine (IH.out j hj _ _ (HAt.out.ext ((Ext.refl wr).alloc _))).mono ?_
      rintro e w' ⟨⟨x, rfl, hx⟩, he⟩
      have HE' := Sd.mk he
      have HX := Sd.mk hx
      clear he hx
      have HO' := Sd.mk (owns_ext HO.out (((Ext.refl wr).alloc _).trans HE'.out))
      clear e0 e1 e2 e3 e4 e5
      rcases HX.out.shape with rfl | ⟨dd, yy, rfl⟩
      · go_wp2_with (at_builtin; refine wpList_append_own_at _ rfl (.tmp 13) (.tmp 16) 112 rfl w.heap.size 20 i0 .nilIface 1 16 Tryz.underlying112 hi hz0 hz1 hz2 rfl (by decide) _ _ _ rfl (HO'.out.alloc _) ⟨w'.heap.size, 0, none⟩ 1 1 [.nilIface] rfl rfl ?c1 ?c2 ?c3 ?c4 ?c5 ?_)
        case c1 => exact cell_one_new _ _ _
        case c2 => simp [HX.out.one]
        case c3 => unfold maxLen; omega
        case c4 => omega
        case c5 => have := HE'.out.size; have := HE.out.size; simp at *; omega
        intro v' w1 hown' hgrow _ hat
        have hs1 := HE'.out.size
        have hs0 := HE.out.size
        have HG := Sd.mk hgrow
        have HW := Sd.mk hat
        have HO1 := Sd.mk hown'
        clear hown' hgrow hat
        simp only [World.size_alloc] at hs1
        go_wp2_with fail
        go_roundg (is.length - (j + 1))
        case measure => omega
        case rel =>
          refine ⟨j + 1, xs ++ [.nilIface], by go_num, by simp [hxl], by omega, ⟨Ext.grown ((HE.out.trans (((Ext.refl wr).alloc _).trans HE'.out)).alloc _) HG.out (Nat.le_refl _) (owns_base HO'.out)⟩, ⟨by simpa [hxl] using HO1.out⟩, ⟨fun i h h2 => ?_⟩⟩
          have hold : ∀ k, k < w'.heap.size → u3.ownBlock ≠ some k → w1.heap[k]? = w'.heap[k]? := fun k hk hne => by
            rw [HG.out.block k (by simp; omega) (fun e => hne e.symm)]
            exact Below.heap_alloc _ _ _ hk
          have hnew : ∀ k, k < w'.heap.size → u3.ownBlock ≠ some k → v'.ownBlock ≠ some k := fun k hk hne => by
            rcases HW.out with e | e
            · rw [e]; exact hne
            · rw [e]; simp; omega
          by_cases e : i = j
          · subst e
            have : (xs ++ [Value.nilIface]).getD i .nilIface = .nilIface := by simp [List.getD_eq_getElem?_getD, ← hxl]
            rw [this]
            refine HX.out.keep fun k hN hk => ?_
            have hne : u3.ownBlock ≠ some k := fun e => by have := (HO.out.lt k e).2; simp at hN; omega
            exact ⟨hold k hk hne, by simp at hN; omega, hnew k hk hne⟩
          · have hi : i < j := by omega
            have : (xs ++ [Value.nilIface]).getD i .nilIface = xs.getD i .nilIface := by simp [List.getD_eq_getElem?_getD, List.getElem?_append, hxl, hi]
            rw [this]
            refine (HA.out i h hi).keep fun k hN hk => ?_
            have hk' : k < w'.heap.size := by omega
            exact ⟨(hold k hk' hN.2).trans ((((Ext.refl wr).alloc _).trans HE'.out).block k hk), hN.1, hnew k hk' hN.2⟩
      · go_wp2_with (at_builtin; refine wpList_append_own_at _ rfl (.tmp 13) (.tmp 16) 112 rfl w.heap.size 20 i0 .nilIface 1 16 Tryz.underlying112 hi hz0 hz1 hz2 rfl (by decide) _ _ _ rfl (HO'.out.alloc _) ⟨w'.heap.size, 0, none⟩ 1 1 [.iface dd yy] rfl rfl ?c1 ?c2 ?c3 ?c4 ?c5 ?_)
        case c1 => exact cell_one_new _ _ _
        case c2 => simp [HX.out.one]
        case c3 => unfold maxLen; omega
        case c4 => omega
        case c5 => have := HE'.out.size; have := HE.out.size; simp at *; omega
        intro v' w1 hown' hgrow _ hat
        have hs1 := HE'.out.size
        have hs0 := HE.out.size
        have HG := Sd.mk hgrow
        have HW := Sd.mk hat
        have HO1 := Sd.mk hown'
        clear hown' hgrow hat
        simp only [World.size_alloc] at hs1
        go_wp2_with fail
        go_roundg (is.length - (j + 1))
        case measure => omega
        case rel =>
          refine ⟨j + 1, xs ++ [.iface dd yy], by go_num, by simp [hxl], by omega, ⟨Ext.grown ((HE.out.trans (((Ext.refl wr).alloc _).trans HE'.out)).alloc _) HG.out (Nat.le_refl _) (owns_base HO'.out)⟩, ⟨by simpa [hxl] using HO1.out⟩, ⟨fun i h h2 => ?_⟩⟩
          have hold : ∀ k, k < w'.heap.size → u3.ownBlock ≠ some k → w1.heap[k]? = w'.heap[k]? := fun k hk hne => by
            rw [HG.out.block k (by simp; omega) (fun e => hne e.symm)]
            exact Below.heap_alloc _ _ _ hk
          have hnew : ∀ k, k < w'.heap.size → u3.ownBlock ≠ some k → v'.ownBlock ≠ some k := fun k hk hne => by
            rcases HW.out with e | e
            · rw [e]; exact hne
            · rw [e]; simp; omega
          by_cases e : i = j
          · subst e
            have : (xs ++ [Value.iface dd yy]).getD i .nilIface = .iface dd yy := by simp [List.getD_eq_getElem?_getD, ← hxl]
            rw [this]
            refine HX.out.keep fun k hN hk => ?_
            have hne : u3.ownBlock ≠ some k := fun e => by have := (HO.out.lt k e).2; simp at hN; omega
            exact ⟨hold k hk hne, by simp at hN; omega, hnew k hk hne⟩
          · have hi : i < j := by omega
            have : (xs ++ [Value.iface dd yy]).getD i .nilIface = xs.getD i .nilIface := by simp [List.getD_eq_getElem?_getD, List.getElem?_append, hxl, hi]
            rw [this]
            refine (HA.out i h hi).keep fun k hN hk => ?_
            have hk' : k < w'.heap.size := by omega
            exact ⟨(hold k hk' hN.2).trans ((((Ext.refl wr).alloc _).trans HE'.out).block k hk), hN.1, hnew k hk' hN.2⟩
    · go_wp2_with fail
      have ho := HO.out
      have hx2 : xs.length = is.length := by omega
      have HA' := Sd.mk HA.out
      clear HA HO
      rcases ho.2 with ⟨rfl, h0⟩ | ⟨g, cap, cur, rfl, hbg, hbk, _, hcm, _⟩
      · go_ret
        exact ⟨⟨none, 0, fun i => xs.getD i .nilIface, by rw [← hx2, h0]; rfl, fun i hi => absurd hi (by omega), fun i hi => absurd hi (by omega)⟩, HE.out⟩
      · have hcells := Sd.mk (ho.cells (g := g) rfl)
        go_ret
        refine ⟨⟨some ⟨g, 0, none⟩, cap, fun i => xs.getD i .nilIface, by rw [← hx2]; rfl, fun i hi => ⟨_, rfl, hbg, ?_⟩, fun i hi => (HA'.out i hi (by omega)).keep fun k hN _ => ⟨rfl, hN.1⟩⟩, HE.out⟩
        exact hcells.out i _ (by simp [hx2, hi])

end Go.Proofs.YtgkjdgolffnagaaGreatDoor
