/- Parts of the proof of the statement that this folder hands in: lemmas and contracts (Sa). -/
import Derived.Test.YtcfgjmdfpnfkjaaGreatDoorA
import Derived.Test.YtcfgjmdfpnfkjaaGreatDoorRows
import Derived.ChangeArms
import Derived.ProofKit
set_option linter.unusedSimpArgs false
set_option linter.unusedVariables false
set_option linter.unusedSimpArgs false
namespace Go.Proofs.YtcfgjmdfpnfkjaaGreatDoor
open Go.ChangeShapes Go.WideShapes Go.ChangeAt Go.RowKit

theorem bulk_one {H : Type} (d : DataW H) : 1 ≤ Rows.uptoBulk d := by
  cases d with
  | lit l => cases l <;> simp [Rows.uptoBulk]
  | nil => simp [Rows.uptoBulk]
  | ptr d => simp [Rows.uptoBulk]
  | slice elems spare => simp [Rows.uptoBulk]
  | agg parts => simp [Rows.uptoBulk]
  | iface t d => simp [Rows.uptoBulk]
  | map entries => simp [Rows.uptoBulk]
  | held h => simp [Rows.uptoBulk]
theorem bulk_part {H : Type} {d : DataW H} {l : List (DataW H)} (h : d ∈ l) : Rows.uptoBulk d ≤ Rows.uptoBulkAll l := by
  induction l with
  | nil => cases h
  | cons x r ih =>
    simp only [Rows.uptoBulkAll]
    cases List.mem_cons.1 h with
    | inl e => subst e; omega
    | inr e => have := ih e; omega
theorem bulk_length {H : Type} (l : List (DataW H)) : l.length ≤ Rows.uptoBulkAll l := by
  induction l with
  | nil => simp [Rows.uptoBulkAll]
  | cons x r ih => have := bulk_one x; simp only [Rows.uptoBulkAll, List.length_cons]; omega

theorem pick_list {α : Type} {n : Nat} {P : Nat → α → Prop} (h : ∀ i, i < n → ∃ s, P i s) : ∃ l : List α, l.length = n ∧ ∀ i (hi : i < l.length), P i l[i] := by
  refine ⟨List.ofFn (fun i : Fin n => (h i i.2).choose), by simp, fun i hi => ?_⟩
  simp only [List.getElem_ofFn]
  exact (h i (by simpa using hi)).choose_spec

/-- What a place of a row of named values must hold. -/
def KidAt (w : World) (ad : Addr) (i : Nat) (p : ByteArray × GV) : Prop :=
  ∃ cs, p.2.At w cs ∧ w.cell? (ad.add (i * 4)) = some (.string p.1) ∧ p.1.size ≤ 1048576 ∧ ∀ j (hj : j < cs.length), w.cell? ((ad.add (i * 4)).add (1 + j)) = some cs[j]
theorem all_of {w : World} {ad : Addr} : ∀ (l : List (ByteArray × GV)) (k : Nat), (∀ i (h : i < l.length), KidAt w ad (k + i) l[i]) → GV.All w (some ad) k l
  | [], _, _ => by simp [GV.All]
  | (nm, x) :: r, k, h => by
    obtain ⟨cs, h1, h2, h3, h4⟩ := h 0 (by simp)
    simp only [GV.All]
    refine ⟨⟨ad, cs, rfl, h1, h2, h3, h4⟩, all_of r (k + 1) fun i hi => ?_⟩
    have := h (i + 1) (by simpa using hi)
    rw [show k + 1 + i = k + (i + 1) by omega]
    exact this

theorem cell3 : Tryz.prog.cellsOf 3 = 1 := by kernel_rfl
theorem cell9 : Tryz.prog.cellsOf 9 = 1 := by kernel_rfl
theorem cell22 : Tryz.prog.cellsOf 22 = 1 := by kernel_rfl
theorem cell24 : Tryz.prog.cellsOf 24 = 3 := by kernel_rfl
theorem cell39 : Tryz.prog.cellsOf 39 = 4 := by kernel_rfl

section
variable {H : Type} {enc : TypeId × Value → H} {W : World}

theorem text_of {fuel : Nat} {c : Value} {x : DataW H × List MemPlace} (h : DataW.trod enc Tryz.prog W 0 (fun _ => true) true fuel 9 [c] = some x) (hb : Rows.uptoBulk x.1 ≤ 1048576) : ∃ s : ByteArray, c = .string s ∧ s.size ≤ 1048576 := by
  obtain ⟨t, e, hx, -⟩ := DataW.trod_string Tryz.underlying9 h
  obtain rfl : c = .string t := by simpa using e
  refine ⟨t, rfl, ?_⟩
  rw [hx] at hb
  simp only [Rows.uptoBulk, Array.length_toList] at hb
  have hs : t.size = t.data.size := rfl
  omega

set_option maxRecDepth 100000 in
/-- What the row reads is a value. -/
theorem at_of : ∀ (fuel : Nat) (cs : List Value) (x : DataW H × List MemPlace), DataW.trod enc Tryz.prog W 0 (fun _ => true) true fuel 24 cs = some x → Rows.uptoBulk x.1 ≤ 1048576 → ∃ v : GV, v.At W cs := by
  intro fuel
  induction fuel using Nat.strongRecOn with
  | _ fuel ih =>
    intro cs x h hb
    obtain ⟨xs, n, rfl, rfl, hl, hsz, hf⟩ := DataW.trod_struct Tryz.underlying24 h
    rw [cell24] at hl
    match cs, hl with
    | [c0, c1, c2], _ =>
      match xs, hsz with
      | [x0, x1, x2], _ =>
        have h0 : DataW.trod enc Tryz.prog W 0 (fun _ => true) true n 3 [c0] = some x0 := by have := hf 0 _ rfl; simpa [cell3] using this
        have h1 : DataW.trod enc Tryz.prog W 0 (fun _ => true) true n 9 [c1] = some x1 := by have := hf 1 _ rfl; simpa [cell3, cell9] using this
        have h2 : DataW.trod enc Tryz.prog W 0 (fun _ => true) true n 22 [c2] = some x2 := by have := hf 2 _ rfl; simpa [cell3, cell9, cell22] using this
        simp only [List.map_cons, List.map_nil, Rows.uptoBulk, Rows.uptoBulkAll] at hb
        obtain ⟨k, e0, -, -⟩ := DataW.trod_int Tryz.underlying3 h0
        obtain rfl : c0 = .int .i64 k := by simpa using e0
        obtain ⟨t, rfl, ht⟩ := text_of h1 (by omega)
        rcases DataW.trod_slice Tryz.underlying22 h2 with ⟨hc, -⟩ | ⟨a, len, cap, elems, rest, n', rfl, hc, rfl, hbase, hlc, hcap, hlen, hel, -, -⟩
        · obtain rfl : c2 = .slice none 0 0 := by simpa using hc
          exact ⟨.mk k t [], none, 0, rfl, by simp, by simp [GV.All], ht⟩
        · obtain rfl : c2 = .slice (some a) len cap := by simpa using hc
          simp only [Rows.uptoBulk] at hb
          have hll := bulk_length (elems.map (·.1))
          simp only [List.length_map] at hll
          obtain ⟨is, his, hP⟩ := pick_list (n := len) (P := fun i (v : ByteArray × GV) => KidAt W a (0 + i) v) (fun i hi => by
            have he := hel i hi
            rw [cell39] at he
            have hi' : i < elems.length := by omega
            rw [List.getElem?_eq_getElem hi'] at he
            obtain ⟨cs, hcs, hy⟩ := Option.bind_eq_some_iff.1 he
            obtain ⟨-, hcl, hcell⟩ := World.cells?_some hcs
            have hm : (elems[i]).1 ∈ elems.map (·.1) := List.mem_map_of_mem (List.getElem_mem hi')
            have hbp := bulk_part hm
            obtain ⟨ys, n2, hn2, hye, hl2, hsz2, hf2⟩ := DataW.trod_struct Tryz.underlying39 hy
            subst hn2
            rw [hye] at hbp
            match cs, hcl with
            | [d0, d1, d2, d3], _ =>
              match ys, hsz2 with
              | [y0, y1], _ =>
                have g0 : DataW.trod enc Tryz.prog W 0 (fun _ => true) true n2 9 [d0] = some y0 := by have := hf2 0 _ rfl; simpa [cell9] using this
                have g1 : DataW.trod enc Tryz.prog W 0 (fun _ => true) true n2 24 [d1, d2, d3] = some y1 := by have := hf2 1 _ rfl; simpa [cell9, cell24] using this
                simp only [List.map_cons, List.map_nil, Rows.uptoBulk, Rows.uptoBulkAll] at hbp
                obtain ⟨nm, rfl, hnm⟩ := text_of g0 (by omega)
                obtain ⟨v, hv⟩ := ih n2 (by omega) _ _ g1 (by omega)
                refine ⟨(nm, v), [d1, d2, d3], hv, ?_, hnm, fun j hj => ?_⟩
                · have := hcell 0 (by omega)
                  rw [Addr.add_zero'] at this
                  rw [Nat.zero_add]
                  simpa using this
                · have hj3 : j < 3 := by simpa using hj
                  rw [Nat.zero_add, hcell (1 + j) (by omega)]
                  rcases (by omega : j = 0 ∨ j = 1 ∨ j = 2) with rfl | rfl | rfl <;> rfl)
          subst his
          exact ⟨.mk k t is, some a, cap, rfl, by omega, all_of is 0 hP, ht⟩
end

end Go.Proofs.YtcfgjmdfpnfkjaaGreatDoor
