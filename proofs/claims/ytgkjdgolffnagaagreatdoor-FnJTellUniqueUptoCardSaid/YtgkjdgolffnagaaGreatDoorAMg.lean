/- Parts of the proof of the statement that this folder hands in: lemmas and contracts (A, Xl). -/
import Derived.Test.YtgkjdgolffnagaaGreatDoorProg
import Derived.WalkKit
import Derived.ProofKit
import Derived.WalkSpells
import Derived.WalkLawsBesides
import Derived.BigQuiet
import Derived.Deep.QuietTactic
import Derived.Deep.LoopGhost
import Derived.Deep.RegionWith
import Derived.KernelRfl
import Derived.Lib.Hide
import Derived.Deep.DeepCutAuto
import Derived.Deep.CutBlock
import Derived.StillTailTactics
import Derived.Test.YtgkjdgolffnagaaGreatDoorRows
import Derived.ChangeArms
set_option linter.unusedSimpArgs false
set_option linter.unusedVariables false
namespace Go.Proofs.YtgkjdgolffnagaaGreatDoor
open Go.RowKit

/-- A fact that the walk does not look into. -/
structure Sd (p : Prop) : Prop where
  out : p

/-- A JSON value, as the program's struct has it. -/
inductive JV where
  | mk (kind : Int) (b : Bool) (n : Int) (text : ByteArray) (names : List ByteArray) (items : List JV)

namespace JV
def kind : JV → Int | mk k _ _ _ _ _ => k
def bool : JV → Bool | mk _ b _ _ _ _ => b
def num : JV → Int | mk _ _ n _ _ _ => n
def text : JV → ByteArray | mk _ _ _ t _ _ => t
def names : JV → List ByteArray | mk _ _ _ _ l _ => l
def items : JV → List JV | mk _ _ _ _ _ l => l
end JV

/-- A slice of strings that is read. -/
def Strs (w : World) (A : Option Addr) (l : List ByteArray) : Prop :=
  l.length ≤ 1048576 ∧ ∀ i (h : i < l.length), ∃ ad, A = some ad ∧ w.cell? (ad.add i) = some (.string l[i]) ∧ l[i].size ≤ 1048576

mutual
/-- A value's six cells in a world. -/
def JV.At (w : World) : JV → List Value → Prop
  | .mk k b n t ns is, cs => ∃ A c B d, cs = [.int .i64 k, .bool b, .int .i64 n, .string t, .slice A ns.length c, .slice B is.length d] ∧
      Strs w A ns ∧ is.length ≤ 1048576 ∧ JV.All w B 0 is ∧ t.size ≤ 1048576
/-- A row of values from place i on. -/
def JV.All (w : World) (B : Option Addr) : Nat → List JV → Prop
  | _, [] => True
  | i, x :: r => (∃ ad cs, B = some ad ∧ x.At w cs ∧ ∀ j (h : j < cs.length), w.cell? ((ad.add (i * 6)).add j) = some cs[j]) ∧ JV.All w B (i + 1) r
end

theorem JV.All.get {w : World} {B : Option Addr} : ∀ {l : List JV} {i : Nat}, JV.All w B i l → ∀ k (h : k < l.length),
    ∃ ad cs, B = some ad ∧ (l[k]).At w cs ∧ ∀ j (h : j < cs.length), w.cell? ((ad.add ((i + k) * 6)).add j) = some cs[j]
  | [], _, _, k, h => absurd h (by simp)
  | x :: r, i, hA, 0, _ => by simpa [JV.All] using hA.1
  | x :: r, i, hA, k + 1, h => by
    have := JV.All.get (l := r) hA.2 k (by simpa using h)
    simpa [Nat.add_assoc, Nat.add_comm 1 k] using this

theorem str_ne {s : ByteArray} (h : 0 < s.size) : s.toList.isEmpty = false ∧ ¬ s.toList = [] := by
  have e : s.toList.length = s.size := by rw [ByteArray.toList_eq, Array.length_toList]; rfl
  cases h' : s.toList with
  | nil => rw [h'] at e; simp at e; omega
  | cons a l => simp
theorem str_nil {s : ByteArray} (h : ¬ 0 < s.size) : s.toList = [] := by
  have e : s.toList.length = s.size := by rw [ByteArray.toList_eq, Array.length_toList]; rfl
  exact List.eq_nil_of_length_eq_zero (by omega)
theorem str_size {s : ByteArray} : s.toList.length = s.size := by rw [ByteArray.toList_eq, Array.length_toList]; rfl

/-- What is old is as it was. -/
def Ext (w w' : World) : Prop := Below w.heap.size w w'
theorem Ext.refl (w : World) : Ext w w := Below.refl _ _
theorem Ext.trans {a b c : World} (h : Ext a b) (k : Ext b c) : Ext a c :=
  Below.trans h (Below.mono k h.size)
theorem Ext.alloc {a b : World} (h : Ext a b) (o : Obj) : Ext a (b.alloc o) := Below.alloc h h.size o
theorem Ext.drewN {a b : World} (h : Ext a b) (n : Nat) : Ext a (b.drewN n) := ⟨h.os, h.tape, h.output, h.size, h.block⟩
theorem Ext.cell {w w' : World} (h : Ext w w') {a : Addr} {v : Value} (hc : w.cell? a = some v) : w'.cell? a = some v :=
  (Below.cell h (World.block_lt_of_cell? w a hc)).trans hc

theorem Strs.ext {w w' : World} {A : Option Addr} {l : List ByteArray} (h : Strs w A l) (e : Ext w w') : Strs w' A l :=
  ⟨h.1, fun i hi => let ⟨ad, ha, hc, hs⟩ := h.2 i hi; ⟨ad, ha, e.cell hc, hs⟩⟩
mutual
theorem JV.At.ext {w w' : World} (e : Ext w w') : ∀ {v : JV} {cs : List Value}, v.At w cs → v.At w' cs
  | .mk k b n t ns is, cs, h => by
    simp only [JV.At] at h ⊢
    obtain ⟨A, c, B, d, h0, h1, h2, h3, h4⟩ := h
    exact ⟨A, c, B, d, h0, h1.ext e, h2, JV.All.ext e h3, h4⟩
theorem JV.All.ext {w w' : World} (e : Ext w w') : ∀ {l : List JV} {B : Option Addr} {i : Nat}, JV.All w B i l → JV.All w' B i l
  | [], _, _, _ => by simp [JV.All]
  | x :: r, B, i, h => by
    simp only [JV.All] at h ⊢
    obtain ⟨⟨ad, cs, h0, h1, h2⟩, h3⟩ := h
    exact ⟨⟨ad, cs, h0, JV.At.ext e h1, fun j hj => e.cell (h2 j hj)⟩, JV.All.ext e h3⟩
end


theorem box_cell {w : World} {b : Nat} {cs : Array Value} {t : TypeId} (h : w.heap[b]? = some (.cells cs t (0, 0))) : ∀ i, w.cell? ⟨b, i, none⟩ = cs[i]? := by
  intro i; simp [World.cell?, h]
theorem box_frozen {w : World} {b : Nat} {cs : Array Value} {t : TypeId} (h : w.heap[b]? = some (.cells cs t (0, 0))) : ∀ i, w.frozen? ⟨b, i, none⟩ = false := by
  intro i; simp [World.frozen?, h]
theorem box_set {w : World} {b : Nat} {cs : Array Value} {t : TypeId} {fr : Nat × Nat} (h : w.heap[b]? = some (.cells cs t fr)) (i : Nat) (v : Value) :
    (w.setCell ⟨b, i, none⟩ v).heap[b]? = some (.cells (cs.setIfInBounds i v) t fr) := by
  simp [World.setCell, Array.getElem?_modify, h]
theorem box_other {w : World} {b : Nat} {o : Option Obj} (h : w.heap[b]? = o) (a : Addr) (hne : b ≠ a.block) (v : Value) : (w.setCell a v).heap[b]? = o := by
  rw [Below.heap_setCell _ _ _ _ hne]; exact h
theorem box_keep {w : World} {b : Nat} {o : Obj} (h : w.heap[b]? = some o) (o' : Obj) : (w.alloc o').heap[b]? = some o := by
  rw [Below.heap_alloc _ _ _ (Array.getElem?_eq_some_iff.1 h).1]; exact h
theorem Ext.setCell {a b : World} (h : Ext a b) {p : Addr} (hp : a.heap.size ≤ p.block) (v : Value) : Ext a (b.setCell p v) := Below.setCell h hp v
theorem box_alloc (w : World) (o : Obj) : (w.alloc o).heap[w.heap.size]? = some o := by
  show (w.heap.push o)[w.heap.size]? = some o
  simp
theorem box_ext {w w' : World} {b : Nat} {o : Obj} (h : w.heap[b]? = some o) (e : Ext w w') : w'.heap[b]? = some o := by
  rw [e.block b (Array.getElem?_eq_some_iff.1 h).1]; exact h

theorem box_alloc2 (w : World) (o o' : Obj) : ((w.alloc o).alloc o').heap[w.heap.size + 1]? = some o' := by
  have := box_alloc (w.alloc o) o'
  simpa using this
theorem owns_mono {w : World} {b b' : Nat} {e : TypeId} {sz n : Nat} {v : Value} {xs : List Value} (h : w.ownsRow b e sz v n xs) (hb : b' ≤ b) : w.ownsRow b' e sz v n xs :=
  ⟨h.1, h.2.imp id fun ⟨g, cap, cur, h1, h2, h3⟩ => ⟨g, cap, cur, h1, by omega, h3⟩⟩
theorem owns_ext {w w' : World} {b : Nat} {e : TypeId} {sz n : Nat} {v : Value} {xs : List Value} (h : w.ownsRow b e sz v n xs) (x : Ext w w') : w'.ownsRow b e sz v n xs :=
  h.kept (row := none) ⟨x.os, x.tape, x.output, x.size, fun k hk _ => x.block k hk⟩ (by cases v.ownBlock <;> simp)
/-- Behind an append: what lies below the row's base is as it was. -/
theorem Ext.grown {a b c : World} {B : Nat} (h : Ext a b) {v : Value} (hg : b.grownBy c v.ownBlock) (hB : a.heap.size ≤ B) (hr : ∀ k, v.ownBlock = some k → B ≤ k) : Ext a c :=
  Below.grown h hg h.size (fun k hk => Nat.le_trans hB (hr k hk))
theorem owns_base {w : World} {b : Nat} {e : TypeId} {sz n : Nat} {v : Value} {xs : List Value} (h : w.ownsRow b e sz v n xs) : ∀ k, v.ownBlock = some k → b ≤ k := fun k hk => (h.lt k hk).1
theorem box_grown {b c : World} {g : Nat} {o : Obj} {v : Value} (h : b.heap[g]? = some o) (hg : b.grownBy c v.ownBlock) (hne : ∀ k, v.ownBlock = some k → k ≠ g) : c.heap[g]? = some o := by
  rw [hg.block g (Array.getElem?_eq_some_iff.1 h).1 (fun e => hne g e.symm rfl)]; exact h
theorem add_off (a : Addr) (n j : Nat) (hj : 0 < j) : (a.add n).add j = ⟨(a.add n).block, (a.add n).off + j, none⟩ := by
  simp [Addr.add, show j ≠ 0 by omega]

theorem JV.All.elem {w : World} {B : Option Addr} {is : List JV} (h : JV.All w B 0 is) (j : Nat) (hj : j < is.length) :
    ∃ ad A c D d, B = some ad ∧ w.cell? (ad.add (j * 6)) = some (.int .i64 (is[j]).kind) ∧
      w.cell? ⟨(ad.add (j * 6)).block, (ad.add (j * 6)).off + 1, none⟩ = some (.bool (is[j]).bool) ∧
      w.cell? ⟨(ad.add (j * 6)).block, (ad.add (j * 6)).off + 2, none⟩ = some (.int .i64 (is[j]).num) ∧
      w.cell? ⟨(ad.add (j * 6)).block, (ad.add (j * 6)).off + 3, none⟩ = some (.string (is[j]).text) ∧
      w.cell? ⟨(ad.add (j * 6)).block, (ad.add (j * 6)).off + 4, none⟩ = some (.slice A (is[j]).names.length c) ∧
      w.cell? ⟨(ad.add (j * 6)).block, (ad.add (j * 6)).off + 5, none⟩ = some (.slice D (is[j]).items.length d) ∧
      (is[j]).At w [.int .i64 (is[j]).kind, .bool (is[j]).bool, .int .i64 (is[j]).num, .string (is[j]).text, .slice A (is[j]).names.length c, .slice D (is[j]).items.length d] := by
  obtain ⟨ad, cs, hB, hA, hc⟩ := h.get j hj
  generalize is[j] = x at hA ⊢
  obtain ⟨k, b, n, t, ns, is'⟩ := x
  have hA' := hA
  simp only [JV.At] at hA
  obtain ⟨A, c, D, d, rfl, -, -, -, -⟩ := hA
  simp only [Nat.zero_add] at hc
  refine ⟨ad, A, c, D, d, hB, ?_, ?_, ?_, ?_, ?_, ?_, hA'⟩
  · exact hc 0 (by simp)
  · rw [← add_off _ _ 1 (by omega)]; exact hc 1 (by simp)
  · rw [← add_off _ _ 2 (by omega)]; exact hc 2 (by simp)
  · rw [← add_off _ _ 3 (by omega)]; exact hc 3 (by simp)
  · rw [← add_off _ _ 4 (by omega)]; exact hc 4 (by simp)
  · rw [← add_off _ _ 5 (by omega)]; exact hc 5 (by simp)

theorem JV.size_item {is : List JV} {j : Nat} (h : j < is.length) (k b n t ns) : SizeOf.sizeOf (is[j]) < SizeOf.sizeOf (JV.mk k b n t ns is) := by
  have := List.sizeOf_lt_of_mem (List.getElem_mem h)
  simp only [JV.mk.sizeOf_spec]; omega

theorem JV.ind {P : JV → Prop} (h : ∀ k b n t ns is, (∀ j (hj : j < is.length), P is[j]) → P (.mk k b n t ns is)) : ∀ v, P v
  | .mk k b n t ns is => h k b n t ns is fun j hj => JV.ind h is[j]
termination_by v => SizeOf.sizeOf v
decreasing_by exact JV.size_item hj _ _ _ _ _

end Go.Proofs.YtgkjdgolffnagaaGreatDoor
set_option linter.unusedVariables false
namespace Go.Proofs.YtgkjdgolffnagaaGreatDoor
open Go.ChangeShapes Go.WideShapes Go.ChangeAt Go.RowKit

theorem bulk_one {H : Type} (d : DataW H) : 1 ≤ Rows.uptoBulk d := by
  cases d with
  | lit l => cases l <;> simp [Rows.uptoBulk]
  | nil => simp [Rows.uptoBulk]
  | ptr d => simp [Rows.uptoBulk]
  | slice elems spare => simp [Rows.uptoBulk]
  | agg parts => simp [Rows.uptoBulk]
  | iface t d => simp [Rows.uptoBulk]
  | map entries => simp [Rows.uptoBulk]
  | held h => simp [Rows.uptoBulk]
theorem bulk_part {H : Type} {d : DataW H} {l : List (DataW H)} (h : d ∈ l) : Rows.uptoBulk d ≤ Rows.uptoBulkAll l := by
  induction l with
  | nil => cases h
  | cons x r ih =>
    simp only [Rows.uptoBulkAll]
    cases List.mem_cons.1 h with
    | inl e => subst e; omega
    | inr e => have := ih e; omega
theorem bulk_length {H : Type} (l : List (DataW H)) : l.length ≤ Rows.uptoBulkAll l := by
  induction l with
  | nil => simp [Rows.uptoBulkAll]
  | cons x r ih => have := bulk_one x; simp only [Rows.uptoBulkAll, List.length_cons]; omega

theorem pick_list {α : Type} {n : Nat} {P : Nat → α → Prop} (h : ∀ i, i < n → ∃ s, P i s) : ∃ l : List α, l.length = n ∧ ∀ i (hi : i < l.length), P i l[i] := by
  refine ⟨List.ofFn (fun i : Fin n => (h i i.2).choose), by simp, fun i hi => ?_⟩
  simp only [List.getElem_ofFn]
  exact (h i (by simpa using hi)).choose_spec

theorem all_of {w : World} {ad : Addr} : ∀ (l : List JV) (k : Nat), (∀ i (h : i < l.length), ∃ cs, (l[i]).At w cs ∧ ∀ j (hj : j < cs.length), w.cell? ((ad.add ((k + i) * 6)).add j) = some cs[j]) → JV.All w (some ad) k l
  | [], _, _ => by simp [JV.All]
  | x :: r, k, h => by
    obtain ⟨cs, h1, h2⟩ := h 0 (by simp)
    refine ⟨⟨ad, cs, rfl, h1, h2⟩, all_of r (k + 1) fun i hi => ?_⟩
    have := h (i + 1) (by simpa using hi)
    rw [show k + 1 + i = k + (i + 1) by omega]
    exact this

theorem cell3 : Tryz.prog.cellsOf 3 = 1 := by kernel_rfl
theorem cell4 : Tryz.prog.cellsOf 4 = 1 := by kernel_rfl
theorem cell9 : Tryz.prog.cellsOf 9 = 1 := by kernel_rfl
theorem cell22 : Tryz.prog.cellsOf 22 = 1 := by kernel_rfl
theorem cell23 : Tryz.prog.cellsOf 23 = 1 := by kernel_rfl
theorem cell25 : Tryz.prog.cellsOf 25 = 6 := by kernel_rfl

section
variable {H : Type} {enc : TypeId × Value → H} {W : World}

theorem strs_of {fuel : Nat} {c : Value} {x : DataW H × List MemPlace} (h : DataW.trod enc Tryz.prog W 0 (fun _ => true) true fuel 22 [c] = some x) (hb : Rows.uptoBulk x.1 ≤ 1048576) : ∃ A ns c', c = .slice A ns.length c' ∧ Strs W A ns := by
  rcases DataW.trod_slice Tryz.underlying22 h with ⟨hc, rfl⟩ | ⟨a, len, cap, elems, rest, n, rfl, hc, rfl, hbase, hlc, hcap, hlen, hel, -, -⟩
  · obtain rfl : c = .slice none 0 0 := by simpa using hc
    exact ⟨none, [], 0, rfl, by simp [Strs]⟩
  · obtain rfl : c = .slice (some a) len cap := by simpa using hc
    simp only [Rows.uptoBulk] at hb
    have hl := bulk_length (elems.map (·.1))
    simp only [List.length_map] at hl
    obtain ⟨ns, hns, hP⟩ := pick_list (n := len) (P := fun i (s : ByteArray) => W.cell? (a.add i) = some (.string s) ∧ s.size ≤ 1048576) (fun i hi => by
      have he := hel i hi
      rw [cell9, Nat.mul_one] at he
      have hi' : i < elems.length := by omega
      rw [List.getElem?_eq_getElem hi'] at he
      obtain ⟨cs, hcs, hy⟩ := Option.bind_eq_some_iff.1 he
      obtain ⟨s, rfl, hyx, -⟩ := DataW.trod_string Tryz.underlying9 hy
      obtain ⟨-, -, hcell⟩ := World.cells?_some hcs
      refine ⟨s, ?_, ?_⟩
      · have := hcell 0 (by omega)
        rwa [Addr.add_zero'] at this
      · have hm : (elems[i]).1 ∈ elems.map (·.1) := List.mem_map_of_mem (List.getElem_mem hi')
        have := bulk_part hm
        rw [hyx] at this
        simp only [Rows.uptoBulk, Array.length_toList] at this
        have hs : s.size = s.data.size := rfl
        omega)
    subst hns
    exact ⟨some a, ns, cap, rfl, by omega, fun i hi => ⟨a, rfl, (hP i hi).1, (hP i hi).2⟩⟩

set_option maxRecDepth 100000 in
/-- WHAT THE ROW READS IS A VALUE OF THE MODEL. -/
theorem at_of : ∀ (fuel : Nat) (cs : List Value) (x : DataW H × List MemPlace), DataW.trod enc Tryz.prog W 0 (fun _ => true) true fuel 25 cs = some x → Rows.uptoBulk x.1 ≤ 1048576 → ∃ v : JV, v.At W cs := by
  intro fuel
  induction fuel using Nat.strongRecOn with
  | _ fuel ih =>
    intro cs x h hb
    obtain ⟨xs, n, rfl, rfl, hl, hsz, hf⟩ := DataW.trod_struct Tryz.underlying25 h
    rw [cell25] at hl
    match cs, hl with
    | [c0, c1, c2, c3, c4, c5], _ =>
      match xs, hsz with
      | [x0, x1, x2, x3, x4, x5], _ =>
        have h0 : DataW.trod enc Tryz.prog W 0 (fun _ => true) true n 3 [c0] = some x0 := by have := hf 0 _ rfl; simpa [cell3] using this
        have h1 : DataW.trod enc Tryz.prog W 0 (fun _ => true) true n 4 [c1] = some x1 := by have := hf 1 _ rfl; simpa [cell4] using this
        have h2 : DataW.trod enc Tryz.prog W 0 (fun _ => true) true n 3 [c2] = some x2 := by have := hf 2 _ rfl; simpa [cell3] using this
        have h3 : DataW.trod enc Tryz.prog W 0 (fun _ => true) true n 9 [c3] = some x3 := by have := hf 3 _ rfl; simpa [cell9] using this
        have h4 : DataW.trod enc Tryz.prog W 0 (fun _ => true) true n 22 [c4] = some x4 := by have := hf 4 _ rfl; simpa [cell22] using this
        have h5 : DataW.trod enc Tryz.prog W 0 (fun _ => true) true n 23 [c5] = some x5 := by have := hf 5 _ rfl; simpa [cell23] using this
        simp only [List.map_cons, List.map_nil, Rows.uptoBulk, Rows.uptoBulkAll] at hb
        obtain ⟨k, e0, -, -⟩ := DataW.trod_int Tryz.underlying3 h0
        obtain ⟨b, e1, -⟩ := DataW.trod_bool Tryz.underlying4 h1
        obtain ⟨m, e2, -, -⟩ := DataW.trod_int Tryz.underlying3 h2
        obtain ⟨t, e3, hx3, -⟩ := DataW.trod_string Tryz.underlying9 h3
        obtain rfl : c0 = .int .i64 k := by simpa using e0
        obtain rfl : c1 = .bool b := by simpa using e1
        obtain rfl : c2 = .int .i64 m := by simpa using e2
        obtain rfl : c3 = .string t := by simpa using e3
        obtain ⟨A, ns, c', rfl, hS⟩ := strs_of h4 (by omega)
        have ht : t.size ≤ 1048576 := by
          rw [hx3] at hb
          simp only [Rows.uptoBulk, Array.length_toList] at hb
          have hs : t.size = t.data.size := rfl
          omega
        rcases DataW.trod_slice Tryz.underlying23 h5 with ⟨hc, -⟩ | ⟨a, len, cap, elems, rest, n', rfl, hc, rfl, hbase, hlc, hcap, hlen, hel, -, -⟩
        · obtain rfl : c5 = .slice none 0 0 := by simpa using hc
          exact ⟨.mk k b m t ns [], A, c', none, 0, rfl, hS, by simp, by simp [JV.All], ht⟩
        · obtain rfl : c5 = .slice (some a) len cap := by simpa using hc
          simp only [Rows.uptoBulk] at hb
          have hll := bulk_length (elems.map (·.1))
          simp only [List.length_map] at hll
          obtain ⟨is, his, hP⟩ := pick_list (n := len) (P := fun i (v : JV) => ∃ cs, v.At W cs ∧ ∀ j (hj : j < cs.length), W.cell? ((a.add ((0 + i) * 6)).add j) = some cs[j]) (fun i hi => by
            have he := hel i hi
            rw [cell25] at he
            have hi' : i < elems.length := by omega
            rw [List.getElem?_eq_getElem hi'] at he
            obtain ⟨cs, hcs, hy⟩ := Option.bind_eq_some_iff.1 he
            obtain ⟨-, hcl, hcell⟩ := World.cells?_some hcs
            have hm : (elems[i]).1 ∈ elems.map (·.1) := List.mem_map_of_mem (List.getElem_mem hi')
            have hbp := bulk_part hm
            obtain ⟨v, hv⟩ := ih n' (by omega) cs _ hy (by omega)
            refine ⟨v, cs, hv, fun j hj => ?_⟩
            rw [Nat.zero_add, hcell j (by omega), List.getElem?_eq_getElem hj])
          subst his
          exact ⟨.mk k b m t ns is, A, c', some a, cap, rfl, hS, by omega, all_of is 0 hP, ht⟩
end

end Go.Proofs.YtgkjdgolffnagaaGreatDoor
