/- Parts of the proof of the statement that this folder hands in: lemmas and contracts (A). -/
import Derived.Test.YtcfgjmdfpnfkjaaGreatDoorProg
import Derived.WalkKit
import Derived.ProofKit
import Derived.WalkSpells
import Derived.WalkLawsBesides
import Derived.BigQuiet
import Derived.Deep.QuietTactic
import Derived.Deep.LoopGhost
import Derived.Deep.RegionWith
import Derived.KernelRfl
import Derived.Lib.Hide
import Derived.Deep.DeepCutAuto
import Derived.Deep.CutBlock
import Derived.StillTailTactics
set_option linter.unusedSimpArgs false
set_option linter.unusedVariables false
namespace Go.Proofs.YtcfgjmdfpnfkjaaGreatDoor
open Go.RowKit

/-- A fact that the walk does not look into. -/
structure Sd (p : Prop) : Prop where
  out : p

/-- A value of a document, as the program's struct has it. -/
inductive GV where
  | mk (kind : Int) (raw : ByteArray) (kids : List (ByteArray × GV))

namespace GV
def kind : GV → Int | mk k _ _ => k
def raw : GV → ByteArray | mk _ r _ => r
def kids : GV → List (ByteArray × GV) | mk _ _ l => l
end GV

mutual
/-- A value's three cells in a world. -/
def GV.At (w : World) : GV → List Value → Prop
  | .mk k r l, cs => ∃ A c, cs = [.int .i64 k, .string r, .slice A l.length c] ∧ l.length ≤ 1048576 ∧ GV.All w A 0 l ∧ r.size ≤ 1048576
/-- A row of named values from place i on. -/
def GV.All (w : World) (A : Option Addr) : Nat → List (ByteArray × GV) → Prop
  | _, [] => True
  | i, (nm, x) :: r => (∃ ad cs, A = some ad ∧ x.At w cs ∧ w.cell? (ad.add (i * 4)) = some (.string nm) ∧ nm.size ≤ 1048576 ∧ ∀ j (h : j < cs.length), w.cell? ((ad.add (i * 4)).add (1 + j)) = some cs[j]) ∧ GV.All w A (i + 1) r
end

theorem GV.All.get {w : World} {A : Option Addr} : ∀ {l : List (ByteArray × GV)} {i : Nat}, GV.All w A i l → ∀ k (h : k < l.length),
    ∃ ad cs, A = some ad ∧ (l[k]).2.At w cs ∧ w.cell? (ad.add ((i + k) * 4)) = some (.string (l[k]).1) ∧ (l[k]).1.size ≤ 1048576 ∧ ∀ j (h : j < cs.length), w.cell? ((ad.add ((i + k) * 4)).add (1 + j)) = some cs[j]
  | [], _, _, k, h => absurd h (by simp)
  | (nm, x) :: r, i, hA, 0, _ => by simpa [GV.All] using hA.1
  | (nm, x) :: r, i, hA, k + 1, h => by
    have := GV.All.get (l := r) hA.2 k (by simpa using h)
    simpa [Nat.add_assoc, Nat.add_comm 1 k] using this

theorem str_ne {s : ByteArray} (h : 0 < s.size) : s.toList.isEmpty = false ∧ ¬ s.toList = [] := by
  have e : s.toList.length = s.size := by rw [ByteArray.toList_eq, Array.length_toList]; rfl
  cases h' : s.toList with
  | nil => rw [h'] at e; simp at e; omega
  | cons a l => simp
theorem str_nil {s : ByteArray} (h : ¬ 0 < s.size) : s.toList = [] := by
  have e : s.toList.length = s.size := by rw [ByteArray.toList_eq, Array.length_toList]; rfl
  exact List.eq_nil_of_length_eq_zero (by omega)
theorem str_size {s : ByteArray} : s.toList.length = s.size := by rw [ByteArray.toList_eq, Array.length_toList]; rfl

/-- What is old is as it was. -/
def Ext (w w' : World) : Prop := Below w.heap.size w w'
theorem Ext.refl (w : World) : Ext w w := Below.refl _ _
theorem Ext.trans {a b c : World} (h : Ext a b) (k : Ext b c) : Ext a c :=
  Below.trans h (Below.mono k h.size)
theorem Ext.alloc {a b : World} (h : Ext a b) (o : Obj) : Ext a (b.alloc o) := Below.alloc h h.size o
theorem Ext.drewN {a b : World} (h : Ext a b) (n : Nat) : Ext a (b.drewN n) := ⟨h.os, h.tape, h.output, h.size, h.block⟩
theorem Ext.cell {w w' : World} (h : Ext w w') {a : Addr} {v : Value} (hc : w.cell? a = some v) : w'.cell? a = some v :=
  (Below.cell h (World.block_lt_of_cell? w a hc)).trans hc

mutual
theorem GV.At.ext {w w' : World} (e : Ext w w') : ∀ {v : GV} {cs : List Value}, v.At w cs → v.At w' cs
  | .mk k r l, cs, h => by
    simp only [GV.At] at h ⊢
    obtain ⟨A, c, h0, h1, h2, h3⟩ := h
    exact ⟨A, c, h0, h1, GV.All.ext e h2, h3⟩
theorem GV.All.ext {w w' : World} (e : Ext w w') : ∀ {l : List (ByteArray × GV)} {A : Option Addr} {i : Nat}, GV.All w A i l → GV.All w' A i l
  | [], _, _, _ => by simp [GV.All]
  | (nm, x) :: r, A, i, h => by
    simp only [GV.All] at h ⊢
    obtain ⟨⟨ad, cs, h0, h1, h2, h4, h5⟩, h3⟩ := h
    exact ⟨⟨ad, cs, h0, GV.At.ext e h1, e.cell h2, h4, fun j hj => e.cell (h5 j hj)⟩, GV.All.ext e h3⟩
end

theorem box_cell {w : World} {b : Nat} {cs : Array Value} {t : TypeId} (h : w.heap[b]? = some (.cells cs t (0, 0))) : ∀ i, w.cell? ⟨b, i, none⟩ = cs[i]? := by
  intro i; simp [World.cell?, h]
theorem box_frozen {w : World} {b : Nat} {cs : Array Value} {t : TypeId} (h : w.heap[b]? = some (.cells cs t (0, 0))) : ∀ i, w.frozen? ⟨b, i, none⟩ = false := by
  intro i; simp [World.frozen?, h]
theorem box_set {w : World} {b : Nat} {cs : Array Value} {t : TypeId} {fr : Nat × Nat} (h : w.heap[b]? = some (.cells cs t fr)) (i : Nat) (v : Value) :
    (w.setCell ⟨b, i, none⟩ v).heap[b]? = some (.cells (cs.setIfInBounds i v) t fr) := by
  simp [World.setCell, Array.getElem?_modify, h]
theorem box_other {w : World} {b : Nat} {o : Option Obj} (h : w.heap[b]? = o) (a : Addr) (hne : b ≠ a.block) (v : Value) : (w.setCell a v).heap[b]? = o := by
  rw [Below.heap_setCell _ _ _ _ hne]; exact h
theorem box_keep {w : World} {b : Nat} {o : Obj} (h : w.heap[b]? = some o) (o' : Obj) : (w.alloc o').heap[b]? = some o := by
  rw [Below.heap_alloc _ _ _ (Array.getElem?_eq_some_iff.1 h).1]; exact h
theorem Ext.setCell {a b : World} (h : Ext a b) {p : Addr} (hp : a.heap.size ≤ p.block) (v : Value) : Ext a (b.setCell p v) := Below.setCell h hp v
theorem box_alloc (w : World) (o : Obj) : (w.alloc o).heap[w.heap.size]? = some o := by
  show (w.heap.push o)[w.heap.size]? = some o
  simp
theorem box_ext {w w' : World} {b : Nat} {o : Obj} (h : w.heap[b]? = some o) (e : Ext w w') : w'.heap[b]? = some o := by
  rw [e.block b (Array.getElem?_eq_some_iff.1 h).1]; exact h

theorem box_alloc2 (w : World) (o o' : Obj) : ((w.alloc o).alloc o').heap[w.heap.size + 1]? = some o' := by
  have := box_alloc (w.alloc o) o'
  simpa using this
theorem owns_mono {w : World} {b b' : Nat} {e : TypeId} {sz n : Nat} {v : Value} {xs : List Value} (h : w.ownsRow b e sz v n xs) (hb : b' ≤ b) : w.ownsRow b' e sz v n xs :=
  ⟨h.1, h.2.imp id fun ⟨g, cap, cur, h1, h2, h3⟩ => ⟨g, cap, cur, h1, by omega, h3⟩⟩
theorem owns_ext {w w' : World} {b : Nat} {e : TypeId} {sz n : Nat} {v : Value} {xs : List Value} (h : w.ownsRow b e sz v n xs) (x : Ext w w') : w'.ownsRow b e sz v n xs :=
  h.kept (row := none) ⟨x.os, x.tape, x.output, x.size, fun k hk _ => x.block k hk⟩ (by cases v.ownBlock <;> simp)
/-- Behind an append: what lies below the row's base is as it was. -/
theorem Ext.grown {a b c : World} {B : Nat} (h : Ext a b) {v : Value} (hg : b.grownBy c v.ownBlock) (hB : a.heap.size ≤ B) (hr : ∀ k, v.ownBlock = some k → B ≤ k) : Ext a c :=
  Below.grown h hg h.size (fun k hk => Nat.le_trans hB (hr k hk))
theorem owns_base {w : World} {b : Nat} {e : TypeId} {sz n : Nat} {v : Value} {xs : List Value} (h : w.ownsRow b e sz v n xs) : ∀ k, v.ownBlock = some k → b ≤ k := fun k hk => (h.lt k hk).1
theorem box_grown {b c : World} {g : Nat} {o : Obj} {v : Value} (h : b.heap[g]? = some o) (hg : b.grownBy c v.ownBlock) (hne : ∀ k, v.ownBlock = some k → k ≠ g) : c.heap[g]? = some o := by
  rw [hg.block g (Array.getElem?_eq_some_iff.1 h).1 (fun e => hne g e.symm rfl)]; exact h
theorem add_off (a : Addr) (n j : Nat) (hj : 0 < j) : (a.add n).add j = ⟨(a.add n).block, (a.add n).off + j, none⟩ := by
  simp [Addr.add, show j ≠ 0 by omega]

theorem GV.All.elem {w : World} {A : Option Addr} {l : List (ByteArray × GV)} (h : GV.All w A 0 l) (j : Nat) (hj : j < l.length) :
    ∃ ad B c, A = some ad ∧ w.cell? (ad.add (j * 4)) = some (.string (l[j]).1) ∧ (l[j]).1.size ≤ 1048576 ∧
      w.cell? ⟨(ad.add (j * 4)).block, (ad.add (j * 4)).off + 1, none⟩ = some (.int .i64 (l[j]).2.kind) ∧
      w.cell? ⟨(ad.add (j * 4)).block, (ad.add (j * 4)).off + 2, none⟩ = some (.string (l[j]).2.raw) ∧
      w.cell? ⟨(ad.add (j * 4)).block, (ad.add (j * 4)).off + 3, none⟩ = some (.slice B (l[j]).2.kids.length c) ∧
      (l[j]).2.At w [.int .i64 (l[j]).2.kind, .string (l[j]).2.raw, .slice B (l[j]).2.kids.length c] := by
  obtain ⟨ad, cs, hA, hV, hn, hs, hc⟩ := h.get j hj
  generalize (l[j]).2 = x at hV ⊢
  obtain ⟨k, r, kids⟩ := x
  have hV' := hV
  simp only [GV.At] at hV
  obtain ⟨B, c, rfl, -, -, -⟩ := hV
  simp only [Nat.zero_add] at hn hc
  refine ⟨ad, B, c, hA, hn, hs, ?_, ?_, ?_, hV'⟩
  · rw [← add_off _ _ 1 (by omega)]; exact hc 0 (by simp)
  · rw [← add_off _ _ 2 (by omega)]; exact hc 1 (by simp)
  · rw [← add_off _ _ 3 (by omega)]; exact hc 2 (by simp)

theorem GV.size_kid {l : List (ByteArray × GV)} {j : Nat} (h : j < l.length) (k r) : SizeOf.sizeOf (l[j]).2 < SizeOf.sizeOf (GV.mk k r l) := by
  have h1 := List.sizeOf_lt_of_mem (List.getElem_mem h)
  have h2 : SizeOf.sizeOf (l[j]).2 < SizeOf.sizeOf l[j] := by
    generalize l[j] = p
    obtain ⟨a, b⟩ := p
    simp only [Prod.mk.sizeOf_spec]; omega
  simp only [GV.mk.sizeOf_spec]; omega

theorem GV.ind {P : GV → Prop} (h : ∀ k r l, (∀ j (hj : j < l.length), P (l[j]).2) → P (.mk k r l)) : ∀ v, P v
  | .mk k r l => h k r l fun j hj => GV.ind h (l[j]).2
termination_by v => SizeOf.sizeOf v
decreasing_by exact GV.size_kid hj _ _

end Go.Proofs.YtcfgjmdfpnfkjaaGreatDoor
