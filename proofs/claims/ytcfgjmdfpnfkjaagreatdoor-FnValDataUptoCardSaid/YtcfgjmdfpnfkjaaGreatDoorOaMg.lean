/- Parts of the proof of the statement that this folder hands in: lemmas and contracts (Oa, Ob, Pa, Qa, Qb, Qc). -/
import Derived.Test.YtcfgjmdfpnfkjaaGreatDoorDgMg
import Derived.Test.YtcfgjmdfpnfkjaaGreatDoorTs
import Derived.Shelf.SlSortFuncK.WholeK
import Derived.Shelf.GgSortFunc.Tiny
set_option linter.unusedSimpArgs false
set_option linter.unusedVariables false
set_option linter.unusedSimpArgs false
namespace Go.Proofs.YtcfgjmdfpnfkjaaGreatDoor
open Go.RowKit Pf

theorem as_yes {P : Program} {T X : TypeId} {d : TypeDesc} (hu : P.underlying T = some d) (hn : ∀ m, d ≠ .interface m) (v : Value) (w : World) : (Instr.typeAssert (.iface T v) X T true).run P w = .ok (.tuple #[v, .bool true]) w := by
  cases d <;> simp [Instr.typeAssert, run_underlying hu, Result.andThen]
  exact absurd rfl (hn _)
theorem as_no {P : Program} {T X D : TypeId} {d : TypeDesc} {i : TypeInfo} {z : Value} (hu : P.underlying T = some d) (hn : ∀ m, d ≠ .interface m) (hi : P.info? T = some i) (hz : i.zero = some z) (hne : D ≠ T) (v : Value) (w : World) :
    (Instr.typeAssert (.iface D v) X T true).run P w = .ok (.tuple #[z, .bool false]) w := by
  cases d <;> simp [Instr.typeAssert, run_underlying hu, Result.andThen, hne, zeroValue, typeInfo, hi, hz]
  exact absurd rfl (hn _)
theorem as_nil {P : Program} {T X : TypeId} {d : TypeDesc} {i : TypeInfo} {z : Value} (hu : P.underlying T = some d) (hn : ∀ m, d ≠ .interface m) (hi : P.info? T = some i) (hz : i.zero = some z) (w : World) :
    (Instr.typeAssert .nilIface X T true).run P w = .ok (.tuple #[z, .bool false]) w := by
  cases d <;> simp [Instr.typeAssert, run_underlying hu, Result.andThen, zeroValue, typeInfo, hi, hz]
theorem zero_of {P : Program} {T : TypeId} {z : Value} (h : (P.info? T).map (·.zero) = some (some z)) : ∃ i, P.info? T = some i ∧ i.zero = some z := by
  obtain ⟨i, hi, hz⟩ := Option.map_eq_some_iff.1 h
  exact ⟨i, hi, hz⟩
theorem zz4 : (Tryz.prog.info? 4).map (·.zero) = some (some (.bool false)) := by kernel_rfl
theorem y4 (v w) : (Instr.typeAssert (.iface 4 v) 20 4 true).run Tryz.prog w = .ok (.tuple #[v, .bool true]) w := as_yes Tryz.underlying4 (by simp) v w
theorem n4 (D v w) (h : D ≠ 4) : (Instr.typeAssert (.iface D v) 20 4 true).run Tryz.prog w = .ok (.tuple #[.bool false, .bool false]) w := by
  obtain ⟨i, hi, hz⟩ := zero_of zz4; exact as_no Tryz.underlying4 (by simp) hi hz h v w
theorem l4 (w) : (Instr.typeAssert .nilIface 20 4 true).run Tryz.prog w = .ok (.tuple #[.bool false, .bool false]) w := by
  obtain ⟨i, hi, hz⟩ := zero_of zz4; exact as_nil Tryz.underlying4 (by simp) hi hz w
theorem zz2 : (Tryz.prog.info? 2).map (·.zero) = some (some (.int .i64 0)) := by kernel_rfl
theorem y2 (v w) : (Instr.typeAssert (.iface 2 v) 20 2 true).run Tryz.prog w = .ok (.tuple #[v, .bool true]) w := as_yes Tryz.underlying2 (by simp) v w
theorem n2 (D v w) (h : D ≠ 2) : (Instr.typeAssert (.iface D v) 20 2 true).run Tryz.prog w = .ok (.tuple #[.int .i64 0, .bool false]) w := by
  obtain ⟨i, hi, hz⟩ := zero_of zz2; exact as_no Tryz.underlying2 (by simp) hi hz h v w
theorem l2 (w) : (Instr.typeAssert .nilIface 20 2 true).run Tryz.prog w = .ok (.tuple #[.int .i64 0, .bool false]) w := by
  obtain ⟨i, hi, hz⟩ := zero_of zz2; exact as_nil Tryz.underlying2 (by simp) hi hz w
theorem zz44 : (Tryz.prog.info? 44).map (·.zero) = some (some (.float .f64 0)) := by kernel_rfl
theorem y44 (v w) : (Instr.typeAssert (.iface 44 v) 20 44 true).run Tryz.prog w = .ok (.tuple #[v, .bool true]) w := as_yes Tryz.underlying44 (by simp) v w
theorem n44 (D v w) (h : D ≠ 44) : (Instr.typeAssert (.iface D v) 20 44 true).run Tryz.prog w = .ok (.tuple #[.float .f64 0, .bool false]) w := by
  obtain ⟨i, hi, hz⟩ := zero_of zz44; exact as_no Tryz.underlying44 (by simp) hi hz h v w
theorem l44 (w) : (Instr.typeAssert .nilIface 20 44 true).run Tryz.prog w = .ok (.tuple #[.float .f64 0, .bool false]) w := by
  obtain ⟨i, hi, hz⟩ := zero_of zz44; exact as_nil Tryz.underlying44 (by simp) hi hz w
theorem zz9 : (Tryz.prog.info? 9).map (·.zero) = some (some (.string ⟨#[]⟩)) := by kernel_rfl
theorem y9 (v w) : (Instr.typeAssert (.iface 9 v) 20 9 true).run Tryz.prog w = .ok (.tuple #[v, .bool true]) w := as_yes Tryz.underlying9 (by simp) v w
theorem n9 (D v w) (h : D ≠ 9) : (Instr.typeAssert (.iface D v) 20 9 true).run Tryz.prog w = .ok (.tuple #[.string ⟨#[]⟩, .bool false]) w := by
  obtain ⟨i, hi, hz⟩ := zero_of zz9; exact as_no Tryz.underlying9 (by simp) hi hz h v w
theorem l9 (w) : (Instr.typeAssert .nilIface 20 9 true).run Tryz.prog w = .ok (.tuple #[.string ⟨#[]⟩, .bool false]) w := by
  obtain ⟨i, hi, hz⟩ := zero_of zz9; exact as_nil Tryz.underlying9 (by simp) hi hz w
theorem zz93 : (Tryz.prog.info? 93).map (·.zero) = some (some (.slice none 0 0)) := by kernel_rfl
theorem y93 (v w) : (Instr.typeAssert (.iface 93 v) 20 93 true).run Tryz.prog w = .ok (.tuple #[v, .bool true]) w := as_yes Tryz.underlying93 (by simp) v w
theorem n93 (D v w) (h : D ≠ 93) : (Instr.typeAssert (.iface D v) 20 93 true).run Tryz.prog w = .ok (.tuple #[.slice none 0 0, .bool false]) w := by
  obtain ⟨i, hi, hz⟩ := zero_of zz93; exact as_no Tryz.underlying93 (by simp) hi hz h v w
theorem l93 (w) : (Instr.typeAssert .nilIface 20 93 true).run Tryz.prog w = .ok (.tuple #[.slice none 0 0, .bool false]) w := by
  obtain ⟨i, hi, hz⟩ := zero_of zz93; exact as_nil Tryz.underlying93 (by simp) hi hz w
theorem zz85 : (Tryz.prog.info? 85).map (·.zero) = some (some (.map none)) := by kernel_rfl
theorem y85 (v w) : (Instr.typeAssert (.iface 85 v) 20 85 true).run Tryz.prog w = .ok (.tuple #[v, .bool true]) w := as_yes Tryz.underlying85 (by simp) v w
theorem n85 (D v w) (h : D ≠ 85) : (Instr.typeAssert (.iface D v) 20 85 true).run Tryz.prog w = .ok (.tuple #[.map none, .bool false]) w := by
  obtain ⟨i, hi, hz⟩ := zero_of zz85; exact as_no Tryz.underlying85 (by simp) hi hz h v w
theorem l85 (w) : (Instr.typeAssert .nilIface 20 85 true).run Tryz.prog w = .ok (.tuple #[.map none, .bool false]) w := by
  obtain ⟨i, hi, hz⟩ := zero_of zz85; exact as_nil Tryz.underlying85 (by simp) hi hz w

/-- What dataOf hands back for an any that is read as data. -/
def DoR (w : World) (p : PD) (e : Ending) (w' : World) : Prop := ∃ cs : List Value, e = .returned (.agg cs.toArray) ∧ Ext w w' ∧ p.At w' (fun k => w.heap.size ≤ k) cs
def DoC (p : PD) : Prop := ∀ (w : World) (N : Nat → Prop) (x : Value), Any w N x p → Calls Tryz.prog 22 #[x] w (DoR w p)
theorem doR_leaf {w w' : World} {k : Int} {b : Bool} {n : Int} {f : Nat} {s : ByteArray} (he : Ext w w') : DoR w (.mk k b n f s []) (.returned (.agg (dv k b n f s none 0 0))) w' :=
  ⟨(dv k b n f s none 0 0).toList, rfl, he, by simp only [PD.At]; exact ⟨none, 0, rfl, by simp, by simp [PD.All]⟩⟩

set_option maxRecDepth 100000 in
set_option maxHeartbeats 4000000 in
theorem do_nul (w : World) : Calls Tryz.prog 22 #[.nilIface] w (DoR w (.mk 0 false 0 0 noS [])) := by
  have a4 := l4
  have a2 := l2
  have a44 := l44
  have a9 := l9
  have a93 := l93
  have a85 := l85
  go_enter Tryz.func22, Tryz.ntmps22
  go_wp2_with fail
  refine bodyPost_ret (v := .agg (dv 0 false 0 0 noS none 0 0)) (by simp [results, Tryz.results22, go_sem]; rfl) rfl (doR_leaf ((Ext.refl w).alloc _))

set_option maxRecDepth 100000 in
set_option maxHeartbeats 4000000 in
theorem do_bool (b : Bool) (w : World) : Calls Tryz.prog 22 #[.iface 4 (.bool b)] w (DoR w (.mk 1 b 0 0 noS [])) := by
  have a4 := y4
  go_enter Tryz.func22, Tryz.ntmps22
  go_wp2_with fail
  refine bodyPost_ret (v := .agg (dv 1 b 0 0 noS none 0 0)) (by simp [results, Tryz.results22, go_sem]; rfl) rfl (doR_leaf ((Ext.refl w).alloc _))

set_option maxRecDepth 100000 in
set_option maxHeartbeats 4000000 in
theorem do_int (n : Int) (w : World) : Calls Tryz.prog 22 #[.iface 2 (.int .i64 n)] w (DoR w (.mk 2 false n 0 noS [])) := by
  have a4 := fun v w => n4 2 v w (by decide)
  have a2 := y2
  go_enter Tryz.func22, Tryz.ntmps22
  go_wp2_with fail
  refine bodyPost_ret (v := .agg (dv 2 false n 0 noS none 0 0)) (by simp [results, Tryz.results22, go_sem]; rfl) rfl (doR_leaf ((Ext.refl w).alloc _))

set_option maxRecDepth 100000 in
set_option maxHeartbeats 4000000 in
theorem do_flt (f : Nat) (w : World) : Calls Tryz.prog 22 #[.iface 44 (.float .f64 f)] w (DoR w (.mk 3 false 0 f noS [])) := by
  have a4 := fun v w => n4 44 v w (by decide)
  have a2 := fun v w => n2 44 v w (by decide)
  have a44 := y44
  have h17 := run17
  go_enter Tryz.func22, Tryz.ntmps22
  go_wp2_with fail
  refine bodyPost_ret (v := .agg (dv 3 false 0 f noS none 0 0)) (by simp [results, Tryz.results22, go_sem]; rfl) rfl (doR_leaf ((Ext.refl w).alloc _))

set_option maxRecDepth 100000 in
set_option maxHeartbeats 4000000 in
theorem do_text (s : ByteArray) (w : World) : Calls Tryz.prog 22 #[.iface 9 (.string s)] w (DoR w (.mk 4 false 0 0 s [])) := by
  have a4 := fun v w => n4 9 v w (by decide)
  have a2 := fun v w => n2 9 v w (by decide)
  have a44 := fun v w => n44 9 v w (by decide)
  have a9 := y9
  go_enter Tryz.func22, Tryz.ntmps22
  go_wp2_with fail
  refine bodyPost_ret (v := .agg (dv 4 false 0 0 s none 0 0)) (by simp [results, Tryz.results22, go_sem]) rfl (doR_leaf ((Ext.refl w).alloc _))


end Go.Proofs.YtcfgjmdfpnfkjaaGreatDoor
set_option linter.unusedVariables false
set_option linter.unusedSimpArgs false
namespace Go.Proofs.YtcfgjmdfpnfkjaaGreatDoor
open Go.RowKit Pf

theorem PD.At.form {w : World} {N : Nat → Prop} {p : PD} {cs : List Value} (h : p.At w N cs) : ∃ (k : Int) (b : Bool) (n : Int) (f : Nat) (s : ByteArray) (A : Option Addr) (len c : Nat), cs = (dv k b n f s A len c).toList := by
  obtain ⟨k, b, n, f, s, l⟩ := p
  simp only [PD.At] at h
  obtain ⟨A, c, rfl, -, -⟩ := h
  exact ⟨k, b, n, f, s, A, _, c, rfl⟩

set_option maxRecDepth 100000 in
set_option maxHeartbeats 4000000 in
theorem do_list (l : List (ByteArray × PD)) (ih : ∀ j (hj : j < l.length), DoC (l[j]).2) (A : Option Addr) (c : Nat) (x : Nat → Value) (w : World) (N : Nat → Prop) (hl : l.length ≤ 1048576)
    (hc : ∀ i, i < l.length → ∃ ad, A = some ad ∧ N ad.block ∧ w.cell? (ad.add i) = some (x i)) (hx : ∀ i (h : i < l.length), Any w N (x i) (l[i]).2) :
    Calls Tryz.prog 22 #[.iface 93 (.slice A l.length c)] w (DoR w (.mk 5 false 0 0 noS (l.map fun p => (noS, p.2)))) := by
  obtain ⟨i0, hi, hz0, hz1, hz2⟩ := info_parts info49
  have HC := Sd.mk hc
  have HX := Sd.mk hx
  have IH := Sd.mk ih
  clear hc hx ih
  have a4 := fun v w => n4 93 v w (by decide)
  have a2 := fun v w => n2 93 v w (by decide)
  have a44 := fun v w => n44 93 v w (by decide)
  have a9 := fun v w => n9 93 v w (by decide)
  have a93 := y93
  go_enter Tryz.func22, Tryz.ntmps22
  go_wp2_with fail
  clear a4 a2 a44 a9 a93
  go_loopg [43] l.length (fun g v43 wr => ∃ (j : Nat) (xs : List Value) (tv : Value), v43 = .int .i64 j ∧ g + j = l.length ∧ Sd (Ext w wr) ∧ Sd (wr.heap[w.heap.size]? = some (.cells z31 31 (0, 0))) ∧
    Sd (wr.heap[w.heap.size + 1]? = some (.cells #[.int .i64 5, .bool false, .int .i64 0, .int .u64 0, .string ⟨#[]⟩, tv] 31 (0, 0))) ∧ Sd (wr.ownsRow (w.heap.size + 2) 49 7 tv j xs) ∧ Sd (Rows wr (NK (w.heap.size + 2) tv) ((l.take j).map fun p => (noS, p.2)) xs))
  case atStart => exact ⟨0, [], .slice none 0 0, rfl, by omega, ⟨((Ext.refl _).alloc _).alloc _⟩, ⟨box_keep (box_alloc _ _) _⟩, ⟨box_alloc2 _ _ _⟩, ⟨owns_nil _ _ _ _⟩, ⟨rfl⟩⟩
  case round =>
    obtain ⟨j, xs, tv, rfl, hg, HE, HB2, HB3, HO, HR⟩ := hrel
    by_cases hj : j < l.length
    · obtain ⟨ad, rfl, -, e0⟩ := HC.out j hj
      have e0 := HE.out.cell e0
      have f3 := box_cell HB3.out
      go_upto_region 20 with (fail)
      have hwr : w.heap.size + 2 ≤ wr.heap.size := by have := heap_lt HB3.out; omega
      go_region_law (first | (go_simp; go_at_call 22; refine (IH.out j hj _ N _ ((HX.out j hj).ext (HE.out.drewN 1))).mono ?_; rintro e w5 ⟨cs, rfl, he, hp⟩; obtain ⟨k, b, n, fl, s, A2, len, cp, rfl⟩ := hp.form; have HE5 := Sd.mk (((Ext.refl wr).drewN 1).trans he); have HP5 : Sd ((l[j]).2.At w5 (fun k => wr.heap.size ≤ k) (dv k b n fl s A2 len cp).toList) := ⟨hp⟩; clear f3; have f3 := box_cell (box_ext HB3.out HE5.out); have f3A : ∀ i o, (w5.alloc o).cell? ⟨w.heap.size + 1, i, none⟩ = _ := fun i o => box_cell (box_keep (box_ext HB3.out HE5.out) o) i; clear he hp) | (refine step_append_lies _ rfl (.tmp 48) (.tmp 52) 29 rfl (w.heap.size + 2) 49 i0 zkid 7 88 Tryz.underlying29 hi hz0 hz1 hz2 rfl (by decide) tv j xs rfl (World.ownsRow.alloc (owns_ext HO.out HE5.out) _) ⟨w5.heap.size, 0, none⟩ 1 1 (kidC ⟨#[]⟩ k b n fl s A2 len cp).toList rfl rfl (fun q u hu => by have := cells_at (w := w5) (kidC ⟨#[]⟩ k b n fl s A2 len cp) 49 q u hu; simpa using this) (by simp [Value.oneCell']) (by decide) (by unfold maxLen; omega) (by omega) (by have := HE5.out.size; simp; omega) (w5.heap.size + 1) (by simp) ?_; intro g2 cap2 w8 hown hgrow hat hlt8; have HOWN := Sd.mk hown; have HGR : Sd ((w5.alloc (.cells (kidC ⟨#[]⟩ k b n fl s A2 len cp) 49)).grownBy w8 tv.ownBlock) := ⟨hgrow⟩; have HAT := Sd.mk hat; have hGP := grow_pack ((HE.out.trans HE5.out).alloc (.cells (kidC ⟨#[]⟩ k b n fl s A2 len cp) 49)) (show w.heap.size ≤ w.heap.size + 2 by omega) (World.ownsRow.alloc (owns_ext HO.out HE5.out) _) hgrow; have HB38 := Sd.mk (hGP.2 _ _ (by omega) (box_keep (box_ext HB3.out HE5.out) (.cells (kidC ⟨#[]⟩ k b n fl s A2 len cp) 49))); have HB28 := Sd.mk (hGP.2 _ _ (by omega) (box_keep (box_ext HB2.out HE5.out) (.cells (kidC ⟨#[]⟩ k b n fl s A2 len cp) 49))); have HE8 := Sd.mk hGP.1; have f38 := box_cell HB38.out; have fz8 := box_frozen HB38.out; clear hown hgrow hat hlt8 hGP))
      all_goals
        go_wp2_with fail
        go_roundg (l.length - (j + 1))
        case measure => omega
        case rel =>
          have hb := HP5.out.beside (base := w.heap.size + 2) (v := tv) hwr (fun q hq => (own_lt HO.out q hq).2)
          have hrr : Rows (w5.alloc (.cells (kidC ⟨#[]⟩ k b n fl s A2 len cp) 49)) (NK (w.heap.size + 2) tv) ((l.take (j + 1)).map fun p => (noS, p.2)) (xs ++ (kidC ⟨#[]⟩ k b n fl s A2 len cp).toList) := by
            rw [List.take_succ_eq_append_getElem hj, List.map_append]
            exact ((HR.out.ext HE5.out).append (Rows.one (nm := noS) hb)).ext ((Ext.refl w5).alloc _)
          have hr8 := hrr.grown (n := j + 1) (cap := cap2) HGR.out HAT.out (by simp)
          exact ⟨j + 1, _, .slice (some ⟨g2, 0, none⟩) (j + 1) cap2, by go_num, by omega, ⟨HE8.out.setCell (by simp) _⟩, ⟨box_other HB28.out _ (by simp) _⟩, ⟨box_set HB38.out 5 _⟩, ⟨ownsRow_setCell_below HOWN.out (show w.heap.size + 1 < w.heap.size + 2 by omega) _⟩, ⟨hr8.setCell (by omega) _ _⟩⟩
    · have f3 := box_cell HB3.out
      have f2 := box_cell HB2.out
      have fz2 := box_frozen HB2.out
      have hjl : j = l.length := by omega
      subst hjl
      have HO1 : Sd (wr.ownsRow (w.heap.size + 2) 49 7 tv (l.map fun p => (noS, p.2)).length xs) := ⟨by rw [List.length_map]; exact HO.out⟩
      have HR1 : Sd (Rows wr (NK (w.heap.size + 2) tv) (l.map fun p => (noS, p.2)) xs) := ⟨by have := HR.out; rw [List.take_length] at this; exact this⟩
      have hlq : (l.map fun p => (noS, p.2)).length = l.length := List.length_map _
      obtain ⟨A', c', rfl, hAll⟩ := rows_done HO1.out HR1.out
      rw [hlq] at f3
      have HAL := Sd.mk hAll
      clear hAll HO1 HO HR HR1
      go_wp2_with fail
      have HB4 := Sd.mk (six HB2.out (.int .i64 5) (.bool false) (.int .i64 0) (.int .u64 0) (.string ⟨#[]⟩) (.slice A' l.length c'))
      have fc := box_cell HB4.out
      refine bodyPost_ret (v := .agg (dv 5 false 0 0 ⟨#[]⟩ A' l.length c')) (by simp [results, Tryz.results22, go_sem, fc]) rfl ⟨_, rfl, six_ext HE.out (Nat.le_refl _) _ _ _ _ _ _, ?_⟩
      simp only [PD.At]
      refine ⟨A', c', by rw [hlq]; rfl, by rw [hlq]; exact hl, ?_⟩
      exact All.six HAL.out (fun k hk => ⟨by omega, by omega⟩) _ _ _ _ _ _

end Go.Proofs.YtcfgjmdfpnfkjaaGreatDoor
set_option linter.unusedVariables false
set_option linter.unusedSimpArgs false
namespace Go.Proofs.YtcfgjmdfpnfkjaaGreatDoor
open Go.RowKit Pf

set_option maxRecDepth 100000 in
set_option maxHeartbeats 4000000 in
/-- dataOf's order: the names of two members. -/
theorem ord_c (w : World) (b g n c : Nat) (a1 : Bool) (z1 : Int) (z2 : Nat) (z3 : ByteArray) (hb : w.heap[b]? = some (.cells #[.int .i64 6, .bool a1, .int .i64 z1, .int .u64 z2, .string z3, .slice (some ⟨g, 0, none⟩) n c] 31 (0, 0))) (i j : Nat) (hi : i < n) (hj : j < n) (hn : n ≤ 1048576) (s t : ByteArray)
    (h1 : w.cell? ⟨g, i * 7, none⟩ = some (.string s)) (h2 : w.cell? ⟨g, j * 7, none⟩ = some (.string t)) :
    Calls Tryz.prog 36 #[.int .i64 i, .int .i64 j, .pointer (some ⟨b, 0, none⟩)] w fun e w' => e = .returned (.bool (Op.bytesLess s.toList t.toList)) ∧ ∃ q, w' = w.drewN q := by
  have f := box_cell hb
  have b1 : (i : Int) < (n : Int) := by omega
  have b2 : (j : Int) < (n : Int) := by omega
  clear hb
  go_enter Tryz.func36, Tryz.ntmps36
  go_wp2_with fail
  go_quiet (fail)
  go_wp2_with fail
  go_ret
  exact ⟨rfl, _, rfl⟩

end Go.Proofs.YtcfgjmdfpnfkjaaGreatDoor
set_option linter.unusedVariables false
set_option linter.unusedSimpArgs false
namespace Go.Proofs.YtcfgjmdfpnfkjaaGreatDoor
open Go.RowKit Pf

/-- A member as the sort sees it, and the data that it is read as. -/
structure Mem where
  nm : ByteArray
  pd : PD
  k : Int
  b : Bool
  n : Int
  f : Nat
  s : ByteArray
  A : Option Addr
  len : Nat
  c : Nat
instance : Inhabited Mem := ⟨⟨noS, .mk 0 false 0 0 noS [], 0, false, 0, 0, noS, none, 0, 0⟩⟩
namespace Mem
def cells (x : Mem) : List Value := [.int .i64 x.k, .bool x.b, .int .i64 x.n, .int .u64 x.f, .string x.s, .slice x.A x.len x.c]
def enc (x : Mem) : List Value := .string x.nm :: x.cells
def At (w : World) (N : Nat → Prop) (x : Mem) : Prop := x.pd.At w N x.cells
def pair (x : Mem) : ByteArray × PD := (x.nm, x.pd)
def lt (x y : Mem) : Bool := Op.bytesLess x.nm.toList y.nm.toList
theorem len_enc (x : Mem) : x.enc.length = 7 := rfl
theorem one_enc (x : Mem) (v : Value) (hv : v ∈ x.enc) : v.oneCell' = true := by
  simp only [enc, cells, List.mem_cons, List.not_mem_nil, or_false] at hv
  rcases hv with rfl | rfl | rfl | rfl | rfl | rfl | rfl <;> rfl
theorem swo : Go.Sort.SWO lt where
  irrefl x := by unfold lt; rw [less_eq]; exact decide_eq_false (List.lt_irrefl _)
  trans x y z h k := by
    unfold lt at h k ⊢
    rw [less_eq] at h k ⊢
    exact decide_eq_true (List.lt_trans (of_decide_eq_true h) (of_decide_eq_true k))
  ntrans x y z h k := by
    unfold lt at h k ⊢
    rw [less_eq] at h k ⊢
    have h1 := List.not_lt.1 (of_decide_eq_false h)
    have h2 := List.not_lt.1 (of_decide_eq_false k)
    exact decide_eq_false (List.not_lt.2 (List.le_trans h2 h1))
end Mem

theorem rows_mem {w : World} {N : Nat → Prop} : ∀ {l : List (ByteArray × PD)} {xs : List Value}, Rows w N l xs → ∃ d : List Mem, d.map Mem.pair = l ∧ xs = d.flatMap Mem.enc ∧ ∀ x ∈ d, x.At w N
  | [], xs, h => ⟨[], rfl, by simpa [Rows] using h, by simp⟩
  | (nm, p) :: r, xs, h => by
    obtain ⟨cs, rest, h1, rfl, h3⟩ := h
    obtain ⟨d, h4, h5, h6⟩ := rows_mem h3
    obtain ⟨k, b, n, f, s, A, len, c, rfl⟩ := h1.form
    refine ⟨⟨nm, p, k, b, n, f, s, A, len, c⟩ :: d, by rw [List.map_cons, h4]; rfl, by rw [List.flatMap_cons, ← h5]; rfl, fun x hx => ?_⟩
    rcases List.mem_cons.1 hx with rfl | hx
    · exact h1
    · exact h6 x hx

theorem flat_at : ∀ (d : List Mem) (t : Nat), t < d.length * 7 → (d.flatMap Mem.enc)[t]? = some (Mem.enc d.toArray[t / 7]!)[t % 7]!
  | [], t, h => by simp at h
  | x :: d, t, h => by
    rw [List.flatMap_cons]
    by_cases h7 : t < 7
    · rw [List.getElem?_append_left (by rw [x.len_enc]; exact h7), Nat.div_eq_of_lt h7, Nat.mod_eq_of_lt h7]
      have : t < x.enc.length := by rw [x.len_enc]; exact h7
      simp [this]
    · obtain ⟨u, rfl⟩ : ∃ u, t = u + 7 := ⟨t - 7, by omega⟩
      rw [List.getElem?_append_right (by rw [x.len_enc]; omega), x.len_enc, Nat.add_sub_cancel, flat_at d u (by simp at h; omega), Nat.add_div_right _ (by decide), Nat.add_mod_right]
      simp

theorem holds_mem {w : World} {g : Nat} {cur : Array Value} {d : List Mem} (hb : w.heap[g]? = some (.cells cur 49 (0, 0))) (hx : cur.toList.take (d.length * 7) = d.flatMap Mem.enc) : Go.Sort.HoldsK Mem.enc 7 w g 0 d.toArray := by
  intro j hj
  have hj' : j < d.length * 7 := by simpa using hj
  rw [Go.Sort.get_flatK _ _ _ _ (by simpa using hj')]
  refine ⟨?_, by simp [World.frozen?, hb]⟩
  have h1 := flat_at d j hj'
  rw [← hx, List.getElem?_take_of_lt hj'] at h1
  rw [Nat.zero_add, box_cell hb, ← Array.getElem?_toList]
  exact h1

theorem mems_all {w : World} {N : Nat → Prop} {g : Nat} (hN : N g) : ∀ (d : List Mem) (i : Nat), (∀ j (h : j < d.length) c, c < 7 → w.cell? ⟨g, (i + j) * 7 + c, none⟩ = some (Mem.enc d[j])[c]!) → (∀ x ∈ d, x.At w N) → PD.All w N (some ⟨g, 0, none⟩) i (d.map Mem.pair)
  | [], i, _, _ => by simp [PD.All]
  | x :: d, i, hc, hA => by
    have ea : ∀ n, (⟨g, 0, none⟩ : Addr).add n = ⟨g, n, none⟩ := fun n => by rw [add_at, Nat.zero_add]
    simp only [List.map_cons, Mem.pair, PD.All]
    refine ⟨⟨_, x.cells, rfl, hN, hA x (by simp), ?_, fun j hj => ?_⟩, mems_all hN d (i + 1) (fun j hj c h7 => ?_) fun y hy => hA y (by simp [hy])⟩
    · rw [ea]
      have := hc 0 (by simp) 0 (by decide)
      simpa [Mem.enc] using this
    · rw [ea, add_at]
      have hj6 : j < 6 := hj
      have := hc 0 (by simp) (1 + j) (by omega)
      rw [Nat.add_zero] at this
      rw [this]
      simp only [List.getElem_cons_zero, Mem.enc]
      have e : (1 + j) = j + 1 := by omega
      rw [e, getElem!_pos _ _ (by simpa using hj)]
      simp
    · have := hc (j + 1) (by simpa using hj) c h7
      rw [show i + (j + 1) = i + 1 + j by omega] at this
      simpa using this

/-- The sort's last world: what lies outside the row is as it was. -/
theorem sorted_heap (w : World) (g n : Nat) (d : Array Mem) (os : Array Obj) {k : Nat} (hk : k < w.heap.size) (hne : k ≠ g) : (Go.Sort.grow (Go.Sort.putRowK Mem.enc 7 (Go.Sort.ahead w n) g 0 d) os).heap[k]? = w.heap[k]? := by
  have hs : (Go.Sort.putRowK Mem.enc 7 (Go.Sort.ahead w n) g 0 d).heap[k]? = w.heap[k]? := by
    simp [Go.Sort.putRowK, Go.Sort.putRow, Go.Sort.mapBlock, Go.Sort.ahead, Array.getElem?_modify, Ne.symm hne]
  have hl : k < (Go.Sort.putRowK Mem.enc 7 (Go.Sort.ahead w n) g 0 d).heap.size := by rw [Go.Sort.size_putRowK]; exact hk
  rw [← hs]
  show ((Go.Sort.putRowK Mem.enc 7 (Go.Sort.ahead w n) g 0 d).heap ++ os)[k]? = _
  rw [Array.getElem?_append_left hl]
theorem sorted_ext {w0 w : World} (h : Ext w0 w) {g : Nat} (hg : w0.heap.size ≤ g) (n : Nat) (d : Array Mem) (os : Array Obj) : Ext w0 (Go.Sort.grow (Go.Sort.putRowK Mem.enc 7 (Go.Sort.ahead w n) g 0 d) os) :=
  ⟨h.os, h.tape, h.output, by
    have := Go.Sort.size_putRowK Mem.enc 7 (Go.Sort.ahead w n) g 0 d
    show w0.heap.size ≤ ((Go.Sort.putRowK Mem.enc 7 (Go.Sort.ahead w n) g 0 d).heap ++ os).size
    rw [Array.size_append, this]
    exact Nat.le_trans h.size (Nat.le_add_right _ _), fun k hk => (sorted_heap w g n d os (Nat.lt_of_lt_of_le hk h.size) (by omega)).trans (h.block k hk)⟩

/-- Behind the sort: the members by rising names, laid out. -/
theorem sorted_all {w : World} {base g cap n : Nat} {l : List (ByteArray × PD)} {ms : List Mem} (hms : (ms.map (·.nm)).Nodup) (hl : Rising l) (hm : ∀ p, p ∈ l ↔ p ∈ ms.map Mem.pair) (hH : Go.Sort.HoldsK Mem.enc 7 w g 0 ms.toArray) (hb : base ≤ g) (hg : g < w.heap.size)
    (hA : ∀ x ∈ ms, x.At w (NK base (.slice (some ⟨g, 0, none⟩) ms.length cap))) {d' : Array Mem} (hp : Go.Sort.PermIn 0 ms.toArray.size ms.toArray d') (hs : Go.Sort.SortedIn Mem.lt 0 ms.toArray.size d') (os : Array Obj) :
    PD.All (Go.Sort.grow (Go.Sort.putRowK Mem.enc 7 (Go.Sort.ahead w n) g 0 d') os) (fun k => base ≤ k) (some ⟨g, 0, none⟩) 0 l := by
  have hsz : d'.size = ms.toArray.size := hp.1
  have hpe : d'.toList.Perm ms := by
    have := hp.2.2
    rw [Array.extract_eq_self_of_le (by omega), Array.extract_eq_self_of_le (by omega)] at this
    simpa using this
  have hH' := Go.Sort.holdsK_grow Mem.enc 7 _ os g 0 d' (by rw [Go.Sort.size_putRowK]; exact hg) (Go.Sort.holdsK_putRowK Mem.enc 7 (Go.Sort.ahead w n) g 0 _ d' (Go.Sort.holdsK_ahead _ _ w n g 0 _ hH) hsz)
  have hr : Rising (d'.toList.map Mem.pair) := by
    refine rising_of ?_ ?_
    · rw [List.map_map]
      exact (hpe.map (fun x => x.nm)).nodup_iff.2 hms
    · rw [List.pairwise_map, List.pairwise_iff_getElem]
      intro i j hi hj hij
      have h1 := hs i j (Nat.zero_le _) hij (by rw [← hsz]; simpa using hj)
      unfold Mem.lt at h1
      have h2 := less_f h1
      rw [getElem!_pos d' i (by simpa using hi), getElem!_pos d' j (by simpa using hj)] at h2
      simpa [Mem.pair] using h2
  have he : d'.toList.map Mem.pair = l := rising_eq hr hl fun p => by
    rw [hm, List.mem_map, List.mem_map]
    exact ⟨fun ⟨x, h1, h2⟩ => ⟨x, hpe.mem_iff.1 h1, h2⟩, fun ⟨x, h1, h2⟩ => ⟨x, hpe.mem_iff.2 h1, h2⟩⟩
  rw [← he]
  refine mems_all hb d'.toList 0 (fun j hj c h7 => ?_) fun x hx => ?_
  · have := (hH'.cell (i := j) (c := c) (by simpa using hj) h7).1
    rw [Nat.zero_add] at this
    rw [Nat.zero_add, this, getElem!_pos d' j (by simpa using hj)]
    simp
  · exact PD.At.keep (fun k hk hlt => ⟨sorted_heap w g n d' os hlt (fun e => hk.2 (by rw [e]; rfl)), hk.1⟩) (hA x (hpe.mem_iff.1 hx))

/-- What has come of a map's entries: each member once. -/
structure Come (l : List (ByteArray × PD)) (es : Array MapEntry) (seen : Array Nat) (ps : List (ByteArray × PD)) : Prop where
  nd : (ps.map (·.1)).Nodup
  sub : ∀ p ∈ ps, p ∈ l
  iff : ∀ e ∈ es.toList, e.born ∈ seen ↔ ∃ p ∈ ps, e.key = .string p.1
theorem Come.nil (l : List (ByteArray × PD)) (es : Array MapEntry) : Come l es #[] [] := ⟨List.nodup_nil, by simp, by simp⟩
theorem Ents.born {es : Array MapEntry} {clock : Nat} (F : Ents es clock) {x e : MapEntry} (hx : x ∈ es.toList) (he : e ∈ es.toList) (hb : x.born = e.born) : x = e := by
  have hn := F.st.2.1
  obtain ⟨i, hi, rfl⟩ := List.getElem_of_mem hx
  obtain ⟨k, hk, rfl⟩ := List.getElem_of_mem he
  by_cases e : i = k
  · subst e; rfl
  · exfalso
    have hp := List.pairwise_iff_getElem.1 hn
    rcases Nat.lt_or_gt_of_ne e with hl | hl
    · exact hp i k (by simpa using hi) (by simpa using hk) hl (by simpa using hb)
    · exact hp k i (by simpa using hk) (by simpa using hi) hl (by simpa using hb.symm)
theorem Come.step {l : List (ByteArray × PD)} {es : Array MapEntry} {clock : Nat} {seen : Array Nat} {ps : List (ByteArray × PD)} (h : Come l es seen ps) (F : Ents es clock) {e : MapEntry} (he : e ∈ es.toList) (hs : e.born ∉ seen) {p : ByteArray × PD} (hp : p ∈ l) (hk : e.key = .string p.1) :
    Come l es (seen.push e.born) (ps ++ [p]) := by
  refine ⟨?_, fun q hq => ?_, fun x hx => ?_⟩
  · rw [List.map_append, List.nodup_append]
    refine ⟨h.nd, by simp, fun a ha b hb => ?_⟩
    simp only [List.map_cons, List.map_nil, List.mem_singleton] at hb
    subst hb
    rintro rfl
    obtain ⟨q, hq, h2⟩ := List.mem_map.1 ha
    exact hs ((h.iff e he).2 ⟨q, hq, by rw [h2, hk]⟩)
  · rcases List.mem_append.1 hq with hq | hq
    · exact h.sub q hq
    · rw [List.mem_singleton.1 hq]; exact hp
  · rw [Array.mem_push, h.iff x hx]
    constructor
    · rintro (⟨q, hq, h2⟩ | hb)
      · exact ⟨q, by simp [hq], h2⟩
      · have := F.born hx he hb
        subst this
        exact ⟨p, by simp, hk⟩
    · rintro ⟨q, hq, h2⟩
      rcases List.mem_append.1 hq with hq | hq
      · exact .inl ⟨q, hq, h2⟩
      · rw [List.mem_singleton.1 hq] at h2
        exact .inr (by rw [F.one hx he (h2.trans hk.symm)])
theorem nodup_len {α : Type} [DecidableEq α] : ∀ {l m : List α}, l.Nodup → (∀ p ∈ l, p ∈ m) → l.length ≤ m.length
  | [], _, _, _ => Nat.zero_le _
  | a :: l, m, hn, hs => by
    rw [List.nodup_cons] at hn
    have h1 := nodup_len (m := m.erase a) hn.2 fun p hp => (List.mem_erase_of_ne (fun e => hn.1 (by subst e; exact hp))).2 (hs p (by simp [hp]))
    have h2 := hs a (by simp)
    have h3 := List.length_pos_of_mem h2
    rw [List.length_erase_of_mem h2] at h1
    simp only [List.length_cons]
    omega
theorem Come.len {l : List (ByteArray × PD)} {es : Array MapEntry} {seen : Array Nat} {ps : List (ByteArray × PD)} (h : Come l es seen ps) : ps.length ≤ l.length := by
  have := @nodup_len _ (fun _ _ => Classical.propDecidable _) (ps.map (·.1)) (l.map (·.1)) h.nd fun p hp => by
    obtain ⟨q, hq, rfl⟩ := List.mem_map.1 hp
    exact List.mem_map.2 ⟨q, h.sub q hq, rfl⟩
  simpa using this
theorem Come.all {l : List (ByteArray × PD)} {es : Array MapEntry} {seen : Array Nat} {ps : List (ByteArray × PD)} (h : Come l es seen ps) (hr : Rising l) (hd : ∀ e ∈ es.toList, e.born ∈ seen) (hn : ∀ p ∈ l, ∃ e ∈ es.toList, e.key = .string p.1) : ∀ p, p ∈ l ↔ p ∈ ps := by
  intro p
  refine ⟨fun hp => ?_, h.sub p⟩
  obtain ⟨e, he, hk⟩ := hn p hp
  obtain ⟨q, hq, h2⟩ := (h.iff e he).1 (hd e he)
  have e1 : p.1 = q.1 := by rw [hk] at h2; exact Value.string.inj h2
  have : p = q := by
    obtain ⟨i, hi, rfl⟩ := List.getElem_of_mem hp
    obtain ⟨k, hk, hkq⟩ := List.getElem_of_mem (h.sub q hq)
    subst hkq
    by_cases e : i = k
    · subst e; rfl
    · exfalso
      have hpw := List.pairwise_iff_getElem.1 (show l.Pairwise (fun a b => ltB a.1 b.1) from hr)
      rcases Nat.lt_or_gt_of_ne e with hl | hl
      · exact ltB_irrefl _ (e1 ▸ hpw i k hi hk hl)
      · exact ltB_irrefl _ (e1 ▸ hpw k i hk hi hl)
  rw [this]; exact hq

end Go.Proofs.YtcfgjmdfpnfkjaaGreatDoor
set_option linter.unusedVariables false
set_option linter.unusedSimpArgs false
namespace Go.Proofs.YtcfgjmdfpnfkjaaGreatDoor
open Go.RowKit Pf
open Go.Shelf Go.Lib Go.Sort

noncomputable def kidsT : TypeInfo := (Tryz.prog.info? 29).get (by kernel_rfl)
noncomputable def kidT : TypeInfo := (Tryz.prog.info? 49).get (by kernel_rfl)
theorem kid_K (n : Nat) (h2 : 2 ≤ n) : Lib.swapperK n kidT 25 = 9 := by
  have a : kidT.hasPointers = true := by kernel_rfl
  have b : kidT.bytes = 88 := by kernel_rfl
  have c : (n == 0) = false := by simp; omega
  have d : (n == 1) = false := by simp; omega
  simp [Lib.swapperK, a, b, c, d]
theorem kid_K1 (n : Nat) (h1 : n ≤ 1) : Lib.swapperK n kidT 25 = n + 1 := by
  rcases (by omega : n = 0 ∨ n = 1) with rfl | rfl <;> rfl

theorem sort_many (b g n cap : Nat) (a1 : Bool) (z1 : Int) (z2 : Nat) (z3 : ByteArray) (ms : List Mem) (h2 : 2 ≤ ms.length) (hn : ms.length = n) (hsz : n ≤ 1048576) (w : World)
    (hb : w.heap[b]? = some (.cells #[.int .i64 6, .bool a1, .int .i64 z1, .int .u64 z2, .string z3, .slice (some ⟨g, 0, none⟩) n cap] 31 (0, 0))) (hH : HoldsK Mem.enc 7 w g 0 ms.toArray) (hg : g < w.heap.size) (hne : b ≠ g) :
    Calls Tryz.prog 35 #[.iface 29 (.slice (some ⟨g, 0, none⟩) n cap), .func (.func 36) #[] #[.pointer (some ⟨b, 0, none⟩)]] w fun e w' =>
      e = .returned (.tuple #[]) ∧ ∃ d' n os, PermIn 0 ms.toArray.size ms.toArray d' ∧ SortedIn Mem.lt 0 ms.toArray.size d' ∧ w' = grow (putRowK Mem.enc 7 (Sort.ahead w n) g 0 d') os := by
  subst hn
  have hs : ms.toArray.size = ms.length := by simp
  have hless : LessReadsK Tryz.prog 36 #[.pointer (some ⟨b, 0, none⟩)] Mem.enc 7 Mem.lt g 0 ms.toArray.size w := by
    intro m os dk hd i j hi hj
    have e : sortWorldK Mem.enc 7 w g 0 m dk os = putRowK Mem.enc 7 (grow (Sort.ahead w m) os) g 0 dk := by
      unfold sortWorldK; rw [putRowK_grow _ _ (Sort.ahead w m) _ g 0 _ hg]
    have hHg : HoldsK Mem.enc 7 (grow (Sort.ahead w m) os) g 0 ms.toArray := holdsK_grow _ _ _ _ g 0 _ hg (holdsK_ahead _ _ _ _ _ _ _ hH)
    have hc : ∀ t, t < dk.size → (sortWorldK Mem.enc 7 w g 0 m dk os).cell? ⟨g, t * 7, none⟩ = some (.string (dk[t]!).nm) := fun t ht => by
      have := ((holdsK_putRowK Mem.enc 7 _ g 0 _ dk hHg hd).cell (i := t) (c := 0) ht (by omega)).1
      rw [Nat.zero_add, Nat.add_zero] at this
      rw [e, this]
      rfl
    refine (ord_c _ b g ms.length cap a1 z1 z2 z3 ?_ i j (by omega) (by omega) hsz _ _ (hc i (by omega)) (hc j (by omega))).mono fun e' w' h => h
    show (grow (putRowK Mem.enc 7 (Sort.ahead w m) g 0 dk) os).heap[b]? = _
    rw [sorted_heap w g m dk os (heap_lt hb) hne]
    exact hb
  have := Any.sort_Slice_cells_sorted Tryz.laysGg6 29 49 kidsT kidT (by kernel_rfl) (by kernel_rfl) (by kernel_rfl) (by kernel_rfl) 25 (fun _ => by kernel_rfl) Mem.enc 7 Mem.len_enc (by kernel_rfl) (fun _ => by kernel_rfl)
    Mem.one_enc Mem.lt Mem.swo 36 #[.pointer (some ⟨b, 0, none⟩)] (enters_of Tryz.func36 (by kernel_rfl) rfl) g 0 cap ms.toArray (by omega) (by omega) 71 (by rw [kid_K _ (by omega)]; kernel_rfl) false
    (fun args W => run_callFunc_extern Tryz.func71 (by kernel_rfl) (by kernel_rfl) (by kernel_rfl) (e := Extern.ReflectliteSwapper.swap false) (by kernel_rfl) args W) w hless hH hg
  rw [hs] at this
  rw [hs]
  exact this
theorem sort_few (A : Option Addr) (n cap : Nat) (h1 : n ≤ 1) (b : Nat) (w : World) :
    Calls Tryz.prog 35 #[.iface 29 (.slice A n cap), .func (.func 36) #[] #[.pointer (some ⟨b, 0, none⟩)]] w fun e w' => e = .returned (.tuple #[]) ∧ ∃ os, w' = grow w os := by
  rcases (by omega : n = 0 ∨ n = 1) with rfl | rfl
  · exact Any.sort_Slice_tiny Tryz.laysGg6 29 49 kidsT kidT (by kernel_rfl) (by kernel_rfl) (by kernel_rfl) (by kernel_rfl) 25 (fun _ => by kernel_rfl) A 0 cap (by decide) 63 (by rw [kid_K1 0 (by decide)]; kernel_rfl) _ _ _ w
  · exact Any.sort_Slice_tiny Tryz.laysGg6 29 49 kidsT kidT (by kernel_rfl) (by kernel_rfl) (by kernel_rfl) (by kernel_rfl) 25 (fun _ => by kernel_rfl) A 1 cap (by decide) 64 (by rw [kid_K1 1 (by decide)]; kernel_rfl) _ _ _ w

theorem grow_ext (w : World) (os : Array Obj) : Ext w (grow w os) :=
  ⟨rfl, rfl, rfl, by simp [grow], fun k hk => by simp [grow, Array.getElem?_append_left hk]⟩

/-- sort.Slice over the members of a map. -/
theorem sort_c (w0 w : World) (b base : Nat) (a1 : Bool) (z1 : Int) (z2 : Nat) (z3 : ByteArray) (l ps : List (ByteArray × PD)) (xs : List Value) (tv : Value) (hl : Rising l) (hn : l.length ≤ 1048576) (hm : ∀ p, p ∈ l ↔ p ∈ ps) (hnd : (ps.map (·.1)).Nodup) (hle : ps.length ≤ l.length)
    (he : Ext w0 w) (hb : w.heap[b]? = some (.cells #[.int .i64 6, .bool a1, .int .i64 z1, .int .u64 z2, .string z3, tv] 31 (0, 0))) (hbb : b < base) (hw0 : w0.heap.size ≤ base) (ho : w.ownsRow base 49 7 tv ps.length xs) (hr : Rows w (NK base tv) ps xs) :
    Calls Tryz.prog 35 #[.iface 29 tv, .func (.func 36) #[] #[.pointer (some ⟨b, 0, none⟩)]] w fun e w' =>
      e = .returned (.tuple #[]) ∧ Ext w0 w' ∧ (∀ k, k < base → k < w.heap.size → w'.heap[k]? = w.heap[k]?) ∧ ∃ A c, tv = .slice A l.length c ∧ PD.All w' (fun k => base ≤ k) A 0 l := by
  by_cases h1 : ps.length ≤ 1
  · have hps : ps = l := rising_eq (rising_of hnd (by
      match ps, h1 with
      | [], _ => exact List.Pairwise.nil
      | [_], _ => exact List.pairwise_singleton _ _)) hl fun p => (hm p).symm
    subst hps
    obtain ⟨A, c, rfl, hall⟩ := rows_done ho hr
    refine (sort_few A ps.length c h1 b w).mono ?_
    rintro e w' ⟨rfl, os, rfl⟩
    exact ⟨rfl, he.trans (grow_ext w os), fun k _ hk => (grow_ext w os).block k hk, A, c, rfl, hall.ext (grow_ext w os)⟩
  · obtain ⟨ms, h3, h4, h5⟩ := rows_mem hr
    have hml : ms.length = ps.length := by rw [← h3, List.length_map]
    rcases ho.2 with ⟨rfl, h0⟩ | ⟨g, cap, cur, rfl, k1, k2, k3, k4, k5, k6⟩
    · omega
    · have hH : HoldsK Mem.enc 7 w g 0 ms.toArray := holds_mem k2 (by rw [hml, k6, h4])
      have hg := heap_lt k2
      refine (sort_many b g ps.length cap a1 z1 z2 z3 ms (by omega) hml (by omega) w hb hH hg (by omega)).mono ?_
      rintro e w' ⟨rfl, d', n, os, hp, hs, rfl⟩
      have hnm : (ms.map (·.nm)).Nodup := by rw [← h3, List.map_map] at hnd; exact hnd
      have hall := sorted_all (n := n) (cap := cap) hnm hl (by rw [h3]; exact hm) hH k1 hg (by rw [hml]; exact h5) hp hs os
      have hlen : l.length = ps.length := by
        have h6 : l.length ≤ ps.length := @nodup_len _ (fun _ _ => Classical.propDecidable _) l ps (by
          refine List.Pairwise.imp ?_ hl
          intro x y h e
          subst e
          exact ltB_irrefl _ h) fun p hp => (hm p).1 hp
        omega
      exact ⟨rfl, sorted_ext he (by omega) n d' os, fun k hk hk2 => sorted_heap w g n d' os hk2 (by omega), _, cap, by rw [hlen], hall⟩

end Go.Proofs.YtcfgjmdfpnfkjaaGreatDoor
set_option linter.unusedVariables false
set_option linter.unusedSimpArgs false
namespace Go.Proofs.YtcfgjmdfpnfkjaaGreatDoor
open Go.RowKit Pf
open Go.ChangeMaps (setBlock)

/-- How many entries have not come. -/
def leftN (es : Array MapEntry) (seen : Array Nat) : Nat := (es.toList.filter fun e => decide (e.born ∉ seen)).length
theorem filter_lt {α : Type} (p q : α → Bool) (h : ∀ x, p x = true → q x = true) (y : α) (hq : q y = true) (hp : p y = false) : ∀ l : List α, y ∈ l → (l.filter p).length < (l.filter q).length
  | x :: l, hm => by
    have mono : ∀ l : List α, (l.filter p).length ≤ (l.filter q).length := fun l => by
      induction l with
      | nil => simp
      | cons x l ih =>
        cases hx : p x
        · cases hy : q x
          · simpa [List.filter, hx, hy] using ih
          · simp only [List.filter, hx, hy, List.length_cons]; omega
        · simp only [List.filter, hx, h x hx, List.length_cons]; omega
    rcases List.mem_cons.1 hm with rfl | hm
    · have := mono l
      simp only [List.filter, hp, hq, List.length_cons]
      omega
    · have := filter_lt p q h y hq hp l hm
      cases hx : p x
      · cases hy : q x
        · simpa [List.filter, hx, hy] using this
        · simp only [List.filter, hx, hy, List.length_cons]; omega
      · simp only [List.filter, hx, h x hx, List.length_cons]; omega
theorem leftN_push {es : Array MapEntry} {seen : Array Nat} {e : MapEntry} (he : e ∈ es.toList) (hs : e.born ∉ seen) : leftN es (seen.push e.born) < leftN es seen := by
  unfold leftN
  exact filter_lt _ _ (fun x hx => by simp at hx ⊢; exact hx.1) e (by simpa using hs) (by simp) _ he

theorem set_comm (w : World) {a b : Addr} (h : a.block ≠ b.block) (u v : Value) : (w.setCell a u).setCell b v = (w.setCell b v).setCell a u := by
  unfold World.setCell
  simp only [World.mk.injEq, and_true, true_and]
  apply Array.ext_getElem?
  intro k
  simp only [Array.getElem?_modify]
  by_cases h1 : a.block = k
  · subst h1
    rw [if_neg (Ne.symm h), if_pos rfl, if_pos rfl, if_neg (Ne.symm h)]
  · rw [if_neg h1, if_neg h1]
theorem seven_comm (w : World) {g i : Nat} {a : Addr} (h : a.block ≠ g) (u v0 v1 v2 v3 v4 v5 v6 : Value) : sevenW (w.setCell a u) g i v0 v1 v2 v3 v4 v5 v6 = (sevenW w g i v0 v1 v2 v3 v4 v5 v6).setCell a u := by
  unfold sevenW
  rw [set_comm w (b := ⟨g, i, none⟩) h, set_comm _ (b := ⟨g, i + 1, none⟩) h, set_comm _ (b := ⟨g, i + 2, none⟩) h, set_comm _ (b := ⟨g, i + 3, none⟩) h, set_comm _ (b := ⟨g, i + 4, none⟩) h, set_comm _ (b := ⟨g, i + 5, none⟩) h, set_comm _ (b := ⟨g, i + 6, none⟩) h]

theorem wp_range_at {P : Program} (w : World) {ops : Array Oper} {rest : List Oper} {o : Oper} {a : Act} {Q : Exit → Act → World → Prop} (hg : o.guard = none) (m : Operand) (t : TypeId) (hop : o.op = Op.range t m) (k e : TypeId) (ht : P.underlying t = some (.map k e))
    {es : Array MapEntry} {clock : Nat} (b : Nat) (hb : w.heap[b]? = some (.map es clock)) (hm : a.eval m = .map (some b)) (H : Nat) (hH : w.heap.size = H)
    (hK : wpList P ops Q rest (a.put o.dst (.pointer (some ⟨H, 0, none⟩))) (w.alloc (.mapIter (some b) clock #[] clock))) :
    wpList P ops Q (o :: rest) a w := by
  subst hH
  exact wp_range w hg m t hop k e ht b hb hm hK

/-- What the loop over a map keeps. -/
def DmI (l : List (ByteArray × PD)) (es : Array MapEntry) (clock r : Nat) (w wr : World) (seen : Array Nat) (ps : List (ByteArray × PD)) (xs : List Value) (tv : Value) : Prop :=
  Ext w wr ∧ wr.heap[w.heap.size]? = some (.cells z31 31 (0, 0)) ∧ wr.heap[w.heap.size + 1]? = some (.cells #[.int .i64 6, .bool false, .int .i64 0, .int .u64 0, .string ⟨#[]⟩, tv] 31 (0, 0)) ∧
    wr.heap[w.heap.size + 1 + 1]? = some (.mapIter (some r) clock seen clock) ∧ Come l es seen ps ∧ wr.ownsRow (w.heap.size + 3) 49 7 tv ps.length xs ∧ Rows wr (NK (w.heap.size + 3) tv) ps xs
theorem DmI.start (l : List (ByteArray × PD)) (es : Array MapEntry) (clock r : Nat) (w : World) :
    DmI l es clock r w (((w.alloc (.cells z31 31)).alloc (.cells #[.int .i64 6, .bool false, .int .i64 0, .int .u64 0, .string ⟨#[]⟩, .slice none 0 0] 31)).alloc (.mapIter (some r) clock #[] clock)) #[] [] [] (.slice none 0 0) :=
  ⟨(((Ext.refl w).alloc _).alloc _).alloc _, box_keep (box_keep (box_alloc w _) _) _, box_keep (box_alloc2 w _ _) _, box_alloc3 w _ _ _, Come.nil l es, owns_nil _ _ _ _, rfl⟩

abbrev zkC : Array Value := #[.string ⟨#[]⟩, .int .i64 0, .bool false, .int .i64 0, .int .u64 0, .string ⟨#[]⟩, .slice none 0 0]
theorem zk_at {W : World} {base g n cap : Nat} {xs : List Value} (h : W.ownsRow base 49 7 (.slice (some ⟨g, 0, none⟩) (n + 1) cap) (n + 1) (xs ++ zkC.toList)) (hx : xs.length = n * 7) (j : Nat) (hj : j < 7) : W.cell? ⟨g, n * 7 + j, none⟩ = zkC[j]? := by
  rw [h.cellAt _ (by omega), List.getElem?_append_right (by omega), hx, Nat.add_sub_cancel_left, Array.getElem?_toList]
theorem DmI.turn {l : List (ByteArray × PD)} {es : Array MapEntry} {clock r : Nat} {w V U w8 : World} {seen : Array Nat} {ps : List (ByteArray × PD)} {xs : List Value} {tv : Value} {nm : ByteArray} {p : PD} {k : Int} {b : Bool} {n : Int} {f : Nat} {s : ByteArray} {A : Option Addr} {len cp g2 cap2 : Nat}
    (he : Ext w V) (h1 : V.heap[w.heap.size]? = some (.cells z31 31 (0, 0))) (h2 : V.heap[w.heap.size + 1]? = some (.cells #[.int .i64 6, .bool false, .int .i64 0, .int .u64 0, .string ⟨#[]⟩, tv] 31 (0, 0)))
    (h3 : V.heap[w.heap.size + 1 + 1]? = some (.mapIter (some r) clock seen clock)) (hc : Come l es seen (ps ++ [(nm, p)])) (ho : V.ownsRow (w.heap.size + 3) 49 7 tv ps.length xs) (hr : Rows V (NK (w.heap.size + 3) tv) ps xs)
    (hU : Ext V U) (hp : p.At U (fun q => V.heap.size ≤ q) (dv k b n f s A len cp).toList)
    (hown : w8.ownsRow (w.heap.size + 3) 49 7 (.slice (some ⟨g2, 0, none⟩) (ps.length + 1) cap2) (ps.length + 1) (xs ++ zkC.toList)) (hgrow : U.grownBy w8 tv.ownBlock) (hat : tv.ownBlock = some g2 ∨ g2 = U.heap.size) :
    DmI l es clock r w ((sevenW w8 g2 (ps.length * 7) (.string nm) (.int .i64 k) (.bool b) (.int .i64 n) (.int .u64 f) (.string s) (.slice A len cp)).setCell ⟨w.heap.size + 1, 5, none⟩ (.slice (some ⟨g2, 0, none⟩) (ps.length + 1) cap2)) seen (ps ++ [(nm, p)])
      (xs ++ (kidC nm k b n f s A len cp).toList) (.slice (some ⟨g2, 0, none⟩) (ps.length + 1) cap2) := by
  have hlt := heap_lt h3
  have hxl := ho.1
  obtain ⟨hE8, hbox⟩ := grow_pack (he.trans hU) (show w.heap.size ≤ w.heap.size + 3 by omega) (owns_ext ho hU) hgrow
  have hg2 : w.heap.size + 3 ≤ g2 := owns_base hown g2 rfl
  have hb := hp.beside (base := w.heap.size + 3) (v := tv) (by omega) (fun q hq => (own_lt ho q hq).2)
  have hrr : Rows U (NK (w.heap.size + 3) tv) (ps ++ [(nm, p)]) (xs ++ (kidC nm k b n f s A len cp).toList) := (hr.ext hU).append (Rows.one (nm := nm) hb)
  have hr8 := hrr.grown (n := ps.length + 1) (cap := cap2) hgrow hat rfl
  have hr9 : Rows (sevenW w8 g2 (ps.length * 7) (.string nm) (.int .i64 k) (.bool b) (.int .i64 n) (.int .u64 f) (.string s) (.slice A len cp)) (NK (w.heap.size + 3) (.slice (some ⟨g2, 0, none⟩) (ps.length + 1) cap2)) (ps ++ [(nm, p)]) (xs ++ (kidC nm k b n f s A len cp).toList) :=
    hr8.keep fun q hq _ => ⟨seven_heap _ _ _ _ _ _ _ _ _ _ (fun e => hq.2 (by subst e; rfl)), hq⟩
  have ho9 := seven_own hown (i := ps.length * 7) (by simp; omega) (.string nm) (.int .i64 k) (.bool b) (.int .i64 n) (.int .u64 f) (.string s) (.slice A len cp)
  have ex : (xs ++ zkC.toList).take (ps.length * 7) ++ (Value.string nm :: .int .i64 k :: .bool b :: .int .i64 n :: .int .u64 f :: .string s :: .slice A len cp :: (xs ++ zkC.toList).drop (ps.length * 7 + 7)) = xs ++ (kidC nm k b n f s A len cp).toList := by
    rw [← hxl, List.take_left' rfl, List.drop_of_length_le (by simp)]
  rw [ex] at ho9
  refine ⟨(seven_ext hE8 (by omega) _ _ _ _ _ _ _ _).setCell (by simp) _, ?_, ?_, ?_, hc, ?_, ?_⟩
  · refine box_other ?_ _ (by simp) _
    rw [seven_heap _ _ _ _ _ _ _ _ _ _ (by omega)]
    exact hbox _ _ (by omega) (box_ext h1 hU)
  · exact box_set (cs := #[.int .i64 6, .bool false, .int .i64 0, .int .u64 0, .string ⟨#[]⟩, tv]) (by rw [seven_heap _ _ _ _ _ _ _ _ _ _ (by omega)]; exact hbox _ _ (by omega) (box_ext h2 hU)) 5 _
  · refine box_other ?_ _ (by simp) _
    rw [seven_heap _ _ _ _ _ _ _ _ _ _ (by omega)]
    exact hbox _ _ (by omega) (box_ext h3 hU)
  · rw [List.length_append]
    exact ownsRow_setCell_below ho9 (show w.heap.size + 1 < w.heap.size + 3 by omega) _
  · exact hr9.setCell (by omega) _ _
theorem DmI.turn2 {l : List (ByteArray × PD)} {es : Array MapEntry} {clock r : Nat} {w V U w8 : World} {seen : Array Nat} {ps : List (ByteArray × PD)} {xs : List Value} {tv : Value} {nm : ByteArray} {p : PD} {k : Int} {b : Bool} {n : Int} {f : Nat} {s : ByteArray} {A : Option Addr} {len cp g2 cap2 : Nat}
    (he : Ext w V) (h1 : V.heap[w.heap.size]? = some (.cells z31 31 (0, 0))) (h2 : V.heap[w.heap.size + 1]? = some (.cells #[.int .i64 6, .bool false, .int .i64 0, .int .u64 0, .string ⟨#[]⟩, tv] 31 (0, 0)))
    (h3 : V.heap[w.heap.size + 1 + 1]? = some (.mapIter (some r) clock seen clock)) (hc : Come l es seen (ps ++ [(nm, p)])) (ho : V.ownsRow (w.heap.size + 3) 49 7 tv ps.length xs) (hr : Rows V (NK (w.heap.size + 3) tv) ps xs)
    (hU : Ext V U) (hp : p.At U (fun q => V.heap.size ≤ q) (dv k b n f s A len cp).toList)
    (hown : w8.ownsRow (w.heap.size + 3) 49 7 (.slice (some ⟨g2, 0, none⟩) (ps.length + 1) cap2) (ps.length + 1) (xs ++ zkC.toList)) (hgrow : U.grownBy w8 tv.ownBlock) (hat : tv.ownBlock = some g2 ∨ g2 = U.heap.size) :
    DmI l es clock r w (sevenW (w8.setCell ⟨w.heap.size + 1, 5, none⟩ (.slice (some ⟨g2, 0, none⟩) (ps.length + 1) cap2)) g2 (ps.length * 7) (.string nm) (.int .i64 k) (.bool b) (.int .i64 n) (.int .u64 f) (.string s) (.slice A len cp)) seen (ps ++ [(nm, p)])
      (xs ++ (kidC nm k b n f s A len cp).toList) (.slice (some ⟨g2, 0, none⟩) (ps.length + 1) cap2) := by
  have hg2 : w.heap.size + 3 ≤ g2 := owns_base hown g2 rfl
  rw [seven_comm _ (show w.heap.size + 1 ≠ g2 by omega)]
  exact DmI.turn he h1 h2 h3 hc ho hr hU hp hown hgrow hat

end Go.Proofs.YtcfgjmdfpnfkjaaGreatDoor
