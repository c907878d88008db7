/- Parts of the proof of the statement that this folder hands in: lemmas and contracts (Sc, Sd, Se, Sf). -/
import Derived.Test.YtcfgjmdfpnfkjaaGreatDoorZcMg
import Derived.Test.YtcfgjmdfpnfkjaaGreatDoorRows
import Derived.Lib.LaidU8
import Derived.OpenShut
import Derived.Lib.LaidSlice
import Derived.ProofKit
import Derived.Deep.DeepHandedRow
import Derived.Lay
import Derived.Lib.LaidIn
set_option linter.unusedSimpArgs false
set_option linter.unusedVariables false
set_option linter.unusedSimpArgs false
namespace Go.Proofs.YtcfgjmdfpnfkjaaGreatDoor
open Go.RowKit Pf Go.Lib

section
variable {P : Program} {w : World}

theorem float_reads {H : Type} {enc : TypeId × Value → H} {base : Nat} {spare : Nat → Bool} {held : Bool} {fuel : Nat} {t : TypeId} {cs : List Value} {x : DataW H × List MemPlace} {k : FloatKind} (ht : P.underlying t = some (.float k))
    (h : DataW.trod enc P w base spare held fuel t cs = some x) : ∃ n, cs = [.float k n] ∧ x = (.lit (.float k n), []) := by
  cases fuel with
  | zero => simp [DataW.trod] at h
  | succ n =>
    unfold DataW.trod at h
    rw [ht] at h
    split at h <;> simp_all

/-- A variable that reads as a slice: where its elements lie. -/
theorem slice_reads {name : String} {g : Nat} {t e : TypeId} {c : Nat} {els : List (DataW Unit)} (hn : P.globalNamed name = some g) (hy : (P.globals[g]?).map (·.type) = some t) (ht : P.underlying t = some (.slice e)) (hc : P.cellsOf e = c) (hc0 : 0 < c) (hl : 0 < els.length)
    (h : VarReads P w name (.slice els [])) : ∃ R : Nat × Nat, w.cell? ⟨g, 0, none⟩ = some (.slice (some ⟨R.1, R.2, none⟩) els.length els.length) ∧
      ∀ i (hi : i < els.length), ∃ cs fuel p, cs.length = c ∧ (∀ j, j < c → w.cell? ⟨R.1, R.2 + i * c + j, none⟩ = cs[j]?) ∧ DataW.trod (fun _ => ()) P w 0 (fun _ => true) false fuel e cs = some (els[i], p) := by
  obtain ⟨g', t', cs, fuel, p, hg, hty, hvar, hd⟩ := h
  obtain rfl := Option.some.inj (hn.symm.trans hg)
  obtain rfl := Option.some.inj (hy.symm.trans hty)
  rcases DataW.trod_slice ht hd with ⟨_, hx⟩ | ⟨a, len, cap, el, rs, m, rfl, hcs, hx, _, hlc, _, hel, helem, hsp, _⟩
  · cases hx
  have e0 := congrArg Prod.fst hx
  simp only [DataW.slice.injEq] at e0
  obtain ⟨eE, eR⟩ := e0
  have hlen : len = els.length := by
    have := congrArg List.length eE
    simp at this
    omega
  have hcap : cap = len := by
    have h1 := (hsp rfl).1
    have h2 := congrArg List.length eR
    simp at h2
    omega
  subst hcap
  subst hlen
  rw [hc] at helem
  have hat : ∀ i (hi : i < els.length), ∃ cs fuel p, cs.length = c ∧ (∀ j, j < c → w.cell? ((a.add (i * c)).add j) = cs[j]?) ∧ DataW.trod (fun _ => ()) P w 0 (fun _ => true) false fuel e cs = some (els[i], p) := by
    intro i hi
    have h1 := helem i hi
    have hi' : i < el.length := by omega
    rw [List.getElem?_eq_getElem hi'] at h1
    obtain ⟨ce, hce, hte⟩ := Option.bind_eq_some_iff.1 h1
    obtain ⟨-, hcl, hcell⟩ := World.cells?_some hce
    refine ⟨ce, m, (el[i]).2, hcl, hcell, ?_⟩
    rw [hte]
    have h2 : (el.map (·.1))[i]? = els[i]? := by rw [eE]
    rw [List.getElem?_map, List.getElem?_eq_getElem hi', List.getElem?_eq_getElem hi] at h2
    have h3 : (el[i]).1 = els[i] := by simpa using h2
    rw [← h3]
  obtain ⟨R, o, sR⟩ := a
  obtain rfl : sR = none := by
    obtain ⟨ce, f, p', h1, h2, -⟩ := hat 0 hl
    have h3 := h2 0 hc0
    have e1 : ((Addr.add ⟨R, o, sR⟩ (0 * c)).add 0) = ⟨R, o, sR⟩ := by simp [Addr.add]
    rw [e1, List.getElem?_eq_getElem (by omega)] at h3
    exact cell_spot h3
  refine ⟨(R, o), ?_, fun i hi => ?_⟩
  · rw [World.var?_cell hg hvar 0, ← Array.getElem?_toList, hcs]
    rfl
  · obtain ⟨ce, f, p', h1, h2, h3⟩ := hat i hi
    refine ⟨ce, f, p', h1, fun j hj => ?_, h3⟩
    rw [← h2 j hj, Addr.add_lit, Addr.add_lit]

/-- A variable: its cells, read. -/
theorem var_reads {name : String} {g : Nat} {t : TypeId} {d : DataW Unit} (hn : P.globalNamed name = some g) (hy : (P.globals[g]?).map (·.type) = some t) (h : VarReads P w name d) :
    ∃ cs fuel p, (∀ j, w.cell? ⟨g, j, none⟩ = cs[j]?) ∧ DataW.trod (fun _ => ()) P w 0 (fun _ => true) false fuel t cs = some (d, p) := by
  obtain ⟨g', t', cs, fuel, p, hg, hty, hvar, hd⟩ := h
  obtain rfl := Option.some.inj (hn.symm.trans hg)
  obtain rfl := Option.some.inj (hy.symm.trans hty)
  exact ⟨cs.toList, fuel, p, fun j => by rw [World.var?_cell hg hvar j, ← Array.getElem?_toList], hd⟩
end

theorem cells1 : Tryz.prog.cellsOf 3 = 1 := by kernel_rfl
theorem cells44 : Tryz.prog.cellsOf 44 = 1 := by kernel_rfl
theorem cells9 : Tryz.prog.cellsOf 9 = 1 := by kernel_rfl
theorem cells28 : Tryz.prog.cellsOf 28 = 1 := by kernel_rfl
theorem cells229 : Tryz.prog.cellsOf 229 = 2 := by kernel_rfl
theorem cells219 : Tryz.prog.cellsOf 219 = 2 := by kernel_rfl
theorem cells167 : Tryz.prog.cellsOf 167 = 3 := by kernel_rfl
theorem cells220 : Tryz.prog.cellsOf 220 = 1392 := by kernel_rfl

section
variable {W : World}

theorem v4_reads (h : VarReads Tryz.prog W "internal/strconv.optimize" (.lit (.bool true))) : W.cell? ⟨4, 0, none⟩ = some (.bool true) := by
  obtain ⟨cs, fuel, p, hc, hd⟩ := var_reads (g := 4) (t := 4) (by kernel_rfl) (by kernel_rfl) h
  obtain ⟨b, rfl, hx⟩ := DataW.trod_bool Tryz.underlying4 hd
  have : b = true := by have := congrArg Prod.fst hx; simpa using this.symm
  rw [hc 0, this]; rfl
set_option maxRecDepth 100000 in
theorem err_reads {name : String} {g : Nat} {n : String} {d : DataW Unit} (hn : Tryz.prog.globalNamed name = some g) (hy : (Tryz.prog.globals[g]?).map (·.type) = some 41) (h : VarReads Tryz.prog W name (.iface n d)) :
    ∃ ev, W.cell? ⟨g, 0, none⟩ = some ev ∧ (ev = .nilIface ∨ ∃ te pe, ev = .iface te pe) := by
  obtain ⟨cs, fuel, p, hc, hd⟩ := var_reads hn hy h
  cases fuel with
  | zero => simp [DataW.trod] at hd
  | succ m =>
    unfold DataW.trod at hd
    rw [Tryz.underlying41] at hd
    split at hd
    all_goals first | (cases hd; done) | skip
    all_goals first
      | exact ⟨_, (hc 0).trans rfl, Or.inl rfl⟩
      | exact ⟨_, (hc 0).trans rfl, Or.inr ⟨_, _, rfl⟩⟩
      | simp_all
theorem int_reads {k : IntKind} {t : TypeId} (ht : Tryz.prog.underlying t = some (.int k)) {fuel : Nat} {cs : List Value} {z : Int} {p : List MemPlace} (h : DataW.trod (fun _ => ()) Tryz.prog W 0 (fun _ => true) false fuel t cs = some (.lit (.int k z), p)) : cs = [.int k z] := by
  obtain ⟨n, rfl, hx, -⟩ := DataW.trod_int ht h
  have := congrArg Prod.fst hx
  simp only [DataW.lit.injEq, Lit.int.injEq, true_and] at this
  rw [this]
set_option maxRecDepth 100000 in
theorem v7_reads (h : VarReads Tryz.prog W "internal/strconv.powtab" Rows.laid_internal_strconv_powtab) : ∃ R : Nat × Nat, W.cell? ⟨7, 0, none⟩ = some (.slice (some ⟨R.1, R.2, none⟩) 9 9) ∧ ∀ i, i < 9 → W.cell? ⟨R.1, R.2 + i, none⟩ = some (.int .i64 (pw i : Nat)) := by
  obtain ⟨R, h1, h2⟩ := slice_reads (g := 7) (t := 208) (e := 3) (c := 1) (by kernel_rfl) (by kernel_rfl) Tryz.underlying208 cells1 (by decide) (by decide) h
  refine ⟨R, h1, fun i hi => ?_⟩
  obtain ⟨cs, fuel, p, hl, hc, hd⟩ := h2 i hi
  have hi' : i = 0 ∨ i = 1 ∨ i = 2 ∨ i = 3 ∨ i = 4 ∨ i = 5 ∨ i = 6 ∨ i = 7 ∨ i = 8 := by omega
  have h3 := hc 0 (by decide)
  rw [Nat.mul_one, Nat.add_zero] at h3
  rw [h3]
  rcases hi' with rfl | rfl | rfl | rfl | rfl | rfl | rfl | rfl | rfl
  all_goals
    have e := int_reads Tryz.underlying3 hd
    rw [e]
    rfl
end

end Go.Proofs.YtcfgjmdfpnfkjaaGreatDoor
set_option linter.unusedVariables false
set_option linter.unusedSimpArgs false
namespace Go.Proofs.YtcfgjmdfpnfkjaaGreatDoor
open Go.RowKit Pf Go.Lib

theorem cells106 : Tryz.prog.cellsOf 106 = 1 := by kernel_rfl
def f64s : List Nat := [4607182418800017408, 4621819117588971520, 4636737291354636288, 4652007308841189376, 4666723172467343360, 4681608360884174848, 4696837146684686336, 4711630319722168320, 4726483295884279808, 4741671816366391296, 4756540486875873280, 4771362005757984768, 4786511204640096256, 4801453603149578240, 4816244402031689728, 4831355200913801216, 4846369599423283200, 4861130398305394688, 4876203697187506176, 4891288408196988160, 4906019910204099648, 4921056587992461136, 4936209963552724370]
def nzB (y : Nat) : Bool := match Ieee.double.read y with | .number _ m _ => decide (m ≠ 0) | _ => false
theorem nzB_ok {y : Nat} (h : nzB y = true) : NZ y := by
  unfold nzB at h
  split at h
  · rename_i s m i e
    exact ⟨s, m, i, e, of_decide_eq_true h⟩
  · cases h
theorem f64s_nz : f64s.all nzB = true := by kernel_rfl
theorem f64s_data {H : Type} : (Rows.laid_internal_strconv_float64pow10 : DataW H) = .slice (f64s.map fun x => .lit (.float .f64 x)) [] := rfl

section
variable {W : World}

set_option maxRecDepth 100000 in
theorem exact_reads (h8 : VarReads Tryz.prog W "internal/strconv.float64pow10" Rows.laid_internal_strconv_float64pow10) (h5 : VarReads Tryz.prog W "internal/strconv.float64info" Rows.laid_internal_strconv_float64info) :
    ∃ R : Nat × Nat, Exact (fun i => f64s.getD i 0) R W := by
  rw [f64s_data] at h8
  obtain ⟨R, h1, h2⟩ := slice_reads (g := 8) (t := 209) (e := 44) (c := 1) (by kernel_rfl) (by kernel_rfl) Tryz.underlying209 cells44 (by decide) (by decide) h8
  obtain ⟨cs, fuel, p, hc, hd⟩ := var_reads (g := 5) (t := 167) (by kernel_rfl) (by kernel_rfl) h5
  obtain ⟨xs, n, rfl, hx, hl, hxl, hf⟩ := DataW.trod_struct Tryz.underlying167 hd
  rw [cells167] at hl
  have hx3 : xs.map (·.1) = [.lit (.int .u64 52), .lit (.int .u64 11), .lit (.int .i64 (-1023))] := by
    have := congrArg Prod.fst hx
    simp only [Rows.laid_internal_strconv_float64info, DataW.agg.injEq] at this
    exact this.symm
  obtain ⟨x0, x1, x2, rfl⟩ : ∃ x0 x1 x2, xs = [x0, x1, x2] := by
    match xs, hx3 with
    | [x0, x1, x2], _ => exact ⟨x0, x1, x2, rfl⟩
  simp only [List.map_cons, List.map_nil, List.cons.injEq, and_true] at hx3
  obtain ⟨e0, e1, e2⟩ := hx3
  obtain ⟨y0, q0⟩ := x0
  obtain ⟨y1, q1⟩ := x1
  obtain ⟨y2, q2⟩ := x2
  simp only at e0 e1 e2
  subst e0 e1 e2
  match cs, hl with
  | [c0, c1, c2], _ =>
    have g0 : DataW.trod (fun _ => ()) Tryz.prog W 0 (fun _ => true) false n 106 [c0] = some (.lit (.int .u64 52), q0) := by have := hf 0 _ rfl; simpa [cells106] using this
    have g1 : DataW.trod (fun _ => ()) Tryz.prog W 0 (fun _ => true) false n 106 [c1] = some (.lit (.int .u64 11), q1) := by have := hf 1 _ rfl; simpa [cells106] using this
    have g2 : DataW.trod (fun _ => ()) Tryz.prog W 0 (fun _ => true) false n 3 [c2] = some (.lit (.int .i64 (-1023)), q2) := by have := hf 2 _ rfl; simpa [cells106, cells1] using this
    have k0 := int_reads Tryz.underlying106 g0
    have k1 := int_reads Tryz.underlying106 g1
    have k2 := int_reads Tryz.underlying3 g2
    simp only [List.cons.injEq, and_true] at k0 k1 k2
    subst k0 k1 k2
    refine ⟨R, h1, fun i hi => ?_, fun i hi => ?_, hc 0, hc 1, hc 2⟩
    · obtain ⟨cs, fuel, p, hl, hc, hd⟩ := h2 i (by simpa [f64s] using hi)
      have h3 := hc 0 (by decide)
      rw [Nat.mul_one, Nat.add_zero] at h3
      rw [h3]
      obtain ⟨m, rfl, hx⟩ := float_reads Tryz.underlying44 hd
      have h4 := congrArg Prod.fst hx
      rw [List.getElem_map] at h4
      simp only [DataW.lit.injEq, Lit.float.injEq, true_and] at h4
      have h5 : f64s.getD i 0 = f64s[i]'(by simpa [f64s] using hi) := by simp [List.getD, List.getElem?_eq_getElem (show i < f64s.length by simpa [f64s] using hi)]
      simp only [List.getElem?_cons_zero]
      rw [h5, h4]
    · have h5 : f64s.getD i 0 = f64s[i]'(by simpa [f64s] using hi) := by simp [List.getD, List.getElem?_eq_getElem (show i < f64s.length by simpa [f64s] using hi)]
      show NZ (f64s.getD i 0)
      rw [h5]
      exact nzB_ok (List.all_eq_true.1 f64s_nz _ (List.getElem_mem _))

def cutS (k : Nat) : ByteArray := ⟨(Go.Pinned.cheatRows.getD k (0, [])).2.toArray⟩
theorem cheats_same : (Go.Pinned.cheatRows.map fun x => (x.1, x.2.map UInt8.toNat)) = cheats := by kernel_rfl
theorem cheats_len : Go.Pinned.cheatRows.length = 61 := by kernel_rfl
theorem cheats_short : (Go.Pinned.cheatRows.all fun x => decide (x.2.length ≤ 100)) = true := by kernel_rfl
theorem cheat_at {k : Nat} (h : k < 61) : cheat k = ((Go.Pinned.cheatRows[k]'(by rw [cheats_len]; exact h)).1, (Go.Pinned.cheatRows[k]'(by rw [cheats_len]; exact h)).2.map UInt8.toNat) := by
  have hk : k < Go.Pinned.cheatRows.length := by rw [cheats_len]; exact h
  unfold cheat
  rw [← cheats_same, List.getD, List.getElem?_map, List.getElem?_eq_getElem hk]
  rfl
theorem cut_at {k : Nat} (h : k < 61) : cutS k = ⟨(Go.Pinned.cheatRows[k]'(by rw [cheats_len]; exact h)).2.toArray⟩ := by
  have hk : k < Go.Pinned.cheatRows.length := by rw [cheats_len]; exact h
  unfold cutS
  rw [List.getD, List.getElem?_eq_getElem hk]
  rfl
theorem bytes_list (l : List UInt8) : (ByteArray.mk l.toArray).toList = l := by rw [ByteArray.toList_eq]

set_option maxRecDepth 100000 in
theorem cheats_reads (h : VarReads Tryz.prog W "internal/strconv.leftcheats" Go.Pinned.leftcheats) : ∃ R : Nat × Nat, Cheats R cutS W := by
  unfold Go.Pinned.leftcheats at h
  obtain ⟨R, h1, h2⟩ := slice_reads (g := 11) (t := 230) (e := 229) (c := 2) (by kernel_rfl) (by kernel_rfl) Tryz.underlying230 cells229 (by decide) (by rw [List.length_map, cheats_len]; decide) h
  have hrow : ∀ k (hk : k < 61), W.cell? ⟨R.1, R.2 + k * 2, none⟩ = some (.int .i64 ((cheat k).1 : Nat)) ∧ W.cell? ⟨R.1, R.2 + k * 2 + 1, none⟩ = some (.string (cutS k)) := by
    intro k hk
    have hk' : k < Go.Pinned.cheatRows.length := by rw [cheats_len]; exact hk
    obtain ⟨cs, fuel, p, hl, hc, hd⟩ := h2 k (by rw [List.length_map]; exact hk')
    rw [List.getElem_map] at hd
    have c0 := hc 0 (by decide)
    have c1 := hc 1 (by decide)
    rw [Nat.add_zero] at c0
    rw [c0, c1]
    rw [cheat_at hk, cut_at hk]
    generalize Go.Pinned.cheatRows[k] = row at hd
    obtain ⟨xs, n, rfl, hx, -, hxl, hf⟩ := DataW.trod_struct Tryz.underlying229 hd
    have hx2 : xs.map (·.1) = [.lit (.int .i64 (row.1 : Nat)), .lit (.string row.2)] := by
      have := congrArg Prod.fst hx
      simp only [DataW.agg.injEq] at this
      exact this.symm
    obtain ⟨x0, x1, rfl⟩ : ∃ x0 x1, xs = [x0, x1] := by
      match xs, hx2 with
      | [x0, x1], _ => exact ⟨x0, x1, rfl⟩
    simp only [List.map_cons, List.map_nil, List.cons.injEq, and_true] at hx2
    obtain ⟨e0, e1⟩ := hx2
    obtain ⟨y0, q0⟩ := x0
    obtain ⟨y1, q1⟩ := x1
    simp only at e0 e1
    subst e0 e1
    match cs, hl with
    | [d0, d1], _ =>
      have g0 : DataW.trod (fun _ => ()) Tryz.prog W 0 (fun _ => true) false n 3 [d0] = some (.lit (.int .i64 (row.1 : Nat)), q0) := by have := hf 0 _ rfl; simpa [cells1] using this
      have g1 : DataW.trod (fun _ => ()) Tryz.prog W 0 (fun _ => true) false n 9 [d1] = some (.lit (.string row.2), q1) := by have := hf 1 _ rfl; simpa [cells1, cells9] using this
      have k0 := int_reads Tryz.underlying3 g0
      obtain ⟨s, k1, hs, -⟩ := DataW.trod_string Tryz.underlying9 g1
      simp only [List.cons.injEq, and_true] at k0 k1
      subst k0 k1
      have hs2 : s.data.toList = row.2 := by
        have := congrArg Prod.fst hs
        simp only [DataW.lit.injEq, Lit.string.injEq] at this
        exact this.symm
      have hs3 : s = ⟨row.2.toArray⟩ := by
        rw [← hs2]
      exact ⟨rfl, by rw [hs3]; rfl⟩
  refine ⟨R, ?_, fun k hk => (hrow k hk).1, fun k hk => (hrow k hk).2, fun k hk => ?_, fun k hk => ?_⟩
  · rw [h1, List.length_map, cheats_len]
  · rw [cheat_at hk, cut_at hk]
    unfold nums
    rw [bytes_list]
  · rw [cut_at hk]
    have := List.all_eq_true.1 cheats_short _ (List.getElem_mem (show k < Go.Pinned.cheatRows.length by rw [cheats_len]; exact hk))
    simpa [ByteArray.size] using this

theorem pow_reads (h : VarReads Tryz.prog W "internal/strconv.pow10Tab" Go.Pinned.pow10Tab) : ∃ T : Nat → Int, Pow T W := by
  obtain ⟨cs, fuel, p, hc, hd⟩ := var_reads (g := 9) (t := 220) (by kernel_rfl) (by kernel_rfl) h
  unfold Go.Pinned.pow10Tab at hd
  have hall : ∀ k, k < 1392 → ∃ z, W.cell? ⟨9, k, none⟩ = some (.int .u64 z) := by
    intro k hk
    obtain ⟨fuel', d, q, -, ht⟩ := array_elem Tryz.underlying220 hd (k / 2) (by omega)
    rw [cells219] at ht
    obtain ⟨xs, n, rfl, hx, hl, hxl, hf⟩ := DataW.trod_struct Tryz.underlying219 ht
    have g0 := hf 0 _ rfl
    have g1 := hf 1 _ rfl
    change DataW.trod _ _ _ _ _ _ _ 28 ((((cs.drop (k / 2 * 2)).take 2).drop 0).take (Tryz.prog.cellsOf 28)) = _ at g0
    change DataW.trod _ _ _ _ _ _ _ 28 ((((cs.drop (k / 2 * 2)).take 2).drop 1).take (Tryz.prog.cellsOf 28)) = _ at g1
    rw [cells28] at g0 g1
    have hxl2 : xs.length = 2 := hxl
    rw [List.getElem?_eq_getElem (by omega)] at g0 g1
    obtain ⟨z0, e0, -, -⟩ := DataW.trod_int Tryz.underlying28 g0
    obtain ⟨z1, e1, -, -⟩ := DataW.trod_int Tryz.underlying28 g1
    rw [hc k]
    have hk2 : k = k / 2 * 2 ∨ k = k / 2 * 2 + 1 := by omega
    rcases hk2 with hk2 | hk2
    · refine ⟨z0, ?_⟩
      have := congrArg (·[0]?) e0
      simp only [List.getElem?_take, List.getElem?_drop] at this
      rw [hk2]
      simpa using this
    · refine ⟨z1, ?_⟩
      have := congrArg (·[0]?) e1
      simp only [List.getElem?_take, List.getElem?_drop] at this
      rw [hk2]
      simpa using this
  refine ⟨fun k => if h : k < 1392 then (hall k h).choose else 0, fun i hi => ?_⟩
  simp only [dif_pos hi]
  exact (hall i hi).choose_spec

/-- From the row's condition to what the walks want. -/
theorem lay_of (h : laidMet Tryz.prog Rows.fnValDataUptoRow.laid W) : ∃ L : LayP, Lay L W := by
  obtain ⟨ps, hl, -, -⟩ := h
  have R := fun n d hm => LaidVars_reads hl n d hm
  obtain ⟨RF, hE⟩ := exact_reads (R _ _ (by simp [Rows.fnValDataUptoRow])) (R _ _ (by simp [Rows.fnValDataUptoRow]))
  obtain ⟨RC, hC⟩ := cheats_reads (R _ _ (by simp [Rows.fnValDataUptoRow, Rows.laid_internal_strconv_leftcheats]))
  obtain ⟨T, hP⟩ := pow_reads (R _ _ (by simp [Rows.fnValDataUptoRow, Rows.laid_internal_strconv_pow10Tab]))
  obtain ⟨RP, h7, hr7⟩ := v7_reads (R _ _ (by simp [Rows.fnValDataUptoRow]))
  have h4 := v4_reads (R _ _ (by simp [Rows.fnValDataUptoRow, Rows.laid_internal_strconv_optimize]))
  have r1 := R "strconv.ErrSyntax" Rows.laid_strconv_ErrSyntax (by simp [Rows.fnValDataUptoRow])
  have r2 := R "strconv.ErrRange" Rows.laid_strconv_ErrRange (by simp [Rows.fnValDataUptoRow])
  unfold Rows.laid_strconv_ErrSyntax at r1
  unfold Rows.laid_strconv_ErrRange at r2
  have h1 := err_reads (g := 1) (by kernel_rfl) (by kernel_rfl) r1
  have h2 := err_reads (g := 2) (by kernel_rfl) (by kernel_rfl) r2
  exact ⟨⟨RC, cutS, RF, fun i => f64s.getD i 0, RP, T⟩, hC, hE, hP, h7, hr7, h4, h1, h2⟩
end

end Go.Proofs.YtcfgjmdfpnfkjaaGreatDoor
set_option linter.unusedVariables false
set_option linter.unusedSimpArgs false
namespace Go.Proofs.YtcfgjmdfpnfkjaaGreatDoor
open Go.RowKit Pf Go.Lib
open Go.ChangeShapes Go.WideShapes Go.ChangeAt

/-- A block's cells, laid. -/
def relaid (cs : Array Value) : Obj → Obj
  | .cells _ t frozen => .cells cs t frozen
  | o => o
def pair64 (x : Nat × Nat) : List Value := [.int .u64 x.1, .int .u64 x.2]
def powCells : Array Value := (Go.Pinned.pow10Rows.flatMap pair64).toArray
def cheatCells : Array Value := (Go.Pinned.cheatRows.flatMap fun x => [Value.int .i64 (x.1 : Nat), .string ⟨x.2.toArray⟩]).toArray
def tab32 : Array Value := #[.int .u8 0, .int .u8 1, .int .u8 28, .int .u8 2, .int .u8 29, .int .u8 14, .int .u8 24, .int .u8 3, .int .u8 30, .int .u8 22, .int .u8 20, .int .u8 15, .int .u8 25, .int .u8 17, .int .u8 4, .int .u8 8, .int .u8 31, .int .u8 27, .int .u8 13, .int .u8 23, .int .u8 21, .int .u8 19, .int .u8 16, .int .u8 7, .int .u8 26, .int .u8 12, .int .u8 18, .int .u8 6, .int .u8 11, .int .u8 5, .int .u8 10, .int .u8 9]
def tab64 : Array Value := #[.int .u8 0, .int .u8 1, .int .u8 56, .int .u8 2, .int .u8 57, .int .u8 49, .int .u8 28, .int .u8 3, .int .u8 61, .int .u8 58, .int .u8 42, .int .u8 50, .int .u8 38, .int .u8 29, .int .u8 17, .int .u8 4, .int .u8 62, .int .u8 47, .int .u8 59, .int .u8 36, .int .u8 45, .int .u8 43, .int .u8 51, .int .u8 22, .int .u8 53, .int .u8 39, .int .u8 33, .int .u8 30, .int .u8 24, .int .u8 18, .int .u8 12, .int .u8 5, .int .u8 63, .int .u8 55, .int .u8 48, .int .u8 27, .int .u8 60, .int .u8 41, .int .u8 37, .int .u8 16, .int .u8 46, .int .u8 35, .int .u8 44, .int .u8 21, .int .u8 52, .int .u8 32, .int .u8 23, .int .u8 11, .int .u8 54, .int .u8 26, .int .u8 40, .int .u8 15, .int .u8 34, .int .u8 20, .int .u8 31, .int .u8 10, .int .u8 25, .int .u8 14, .int .u8 19, .int .u8 9, .int .u8 13, .int .u8 8, .int .u8 7, .int .u8 6]
def info32 : Array Value := #[.int .u64 23, .int .u64 8, .int .i64 (-127)]
def info64 : Array Value := #[.int .u64 52, .int .u64 11, .int .i64 (-1023)]
def powtabC : Array Value := #[.int .i64 1, .int .i64 3, .int .i64 6, .int .i64 9, .int .i64 13, .int .i64 16, .int .i64 19, .int .i64 23, .int .i64 26]
def f64C : Array Value := #[.float .f64 4607182418800017408, .float .f64 4621819117588971520, .float .f64 4636737291354636288, .float .f64 4652007308841189376, .float .f64 4666723172467343360, .float .f64 4681608360884174848, .float .f64 4696837146684686336, .float .f64 4711630319722168320, .float .f64 4726483295884279808, .float .f64 4741671816366391296, .float .f64 4756540486875873280, .float .f64 4771362005757984768, .float .f64 4786511204640096256, .float .f64 4801453603149578240, .float .f64 4816244402031689728, .float .f64 4831355200913801216, .float .f64 4846369599423283200, .float .f64 4861130398305394688, .float .f64 4876203697187506176, .float .f64 4891288408196988160, .float .f64 4906019910204099648, .float .f64 4921056587992461136, .float .f64 4936209963552724370]
def f32C : Array Value := #[.float .f32 1065353216, .float .f32 1092616192, .float .f32 1120403456, .float .f32 1148846080, .float .f32 1176256512, .float .f32 1203982336, .float .f32 1232348160, .float .f32 1259902592, .float .f32 1287568416, .float .f32 1315859240, .float .f32 1343554297]
def u64C : Array Value := #[.int .u64 1, .int .u64 10, .int .u64 100, .int .u64 1000, .int .u64 10000, .int .u64 100000, .int .u64 1000000, .int .u64 10000000, .int .u64 100000000, .int .u64 1000000000, .int .u64 10000000000, .int .u64 100000000000, .int .u64 1000000000000, .int .u64 10000000000000, .int .u64 100000000000000, .int .u64 1000000000000000, .int .u64 10000000000000000, .int .u64 100000000000000000, .int .u64 1000000000000000000, .int .u64 10000000000000000000]
/-- A world for the witness: the settled one, the listed variables holding what their initialisers lay. -/
noncomputable def laidWorld (os : Os) : World :=
  let w0 := World.holding Tryz.prog os ⟨#[], #[], []⟩
  { w0 with heap := ((((((((((((((w0.heap.modify 1 (relaid #[.iface 114 (.pointer (some ⟨23, 0, none⟩))])).modify 2 (relaid #[.iface 114 (.pointer (some ⟨24, 0, none⟩))])).modify 3 (relaid info32)).modify 4 (relaid #[.bool true])).modify 5 (relaid info64)).modify 6 (relaid #[.slice (some ⟨19, 0, none⟩) 11 11])).modify 7 (relaid #[.slice (some ⟨20, 0, none⟩) 9 9])).modify 8 (relaid #[.slice (some ⟨21, 0, none⟩) 23 23])).modify 9 (relaid powCells)).modify 10 (relaid u64C)).modify 11 (relaid #[.slice (some ⟨22, 0, none⟩) 61 61])).modify 12 (relaid tab32)).modify 13 (relaid tab64)) ++
    #[Obj.cells f32C 138, Obj.cells powtabC 3, Obj.cells f64C 44, Obj.cells cheatCells 229, Obj.cells #[.string ⟨#[105, 110, 118, 97, 108, 105, 100, 32, 115, 121, 110, 116, 97, 120]⟩] 116, Obj.cells #[.string ⟨#[118, 97, 108, 117, 101, 32, 111, 117, 116, 32, 111, 102, 32, 114, 97, 110, 103, 101]⟩] 116]) }

theorem flat2 : ∀ (l : List (Nat × Nat)) (i : Nat) (h : i < l.length), ((l.flatMap pair64).drop (i * 2)).take 2 = pair64 l[i]
  | x :: l, 0, _ => rfl
  | x :: l, i + 1, h => by
    have := flat2 l i (by simpa using h)
    have e : (i + 1) * 2 = i * 2 + 2 := by omega
    rw [List.flatMap_cons, e, show pair64 x ++ l.flatMap pair64 = .int .u64 x.1 :: .int .u64 x.2 :: l.flatMap pair64 from rfl, List.drop_succ_cons, List.drop_succ_cons, this]
    rfl
theorem flat2_len : ∀ (l : List (Nat × Nat)), (l.flatMap pair64).length = l.length * 2
  | [] => rfl
  | x :: l => by
    have := flat2_len l
    rw [List.flatMap_cons, List.length_append, this]
    simp only [pair64, List.length_cons, List.length_nil]
    omega
theorem pow_len : Go.Pinned.pow10Rows.length = 696 := by kernel_rfl
theorem pow_wf : (Go.Pinned.pow10Rows.all fun x => (Lit.int .u64 (x.1 : Int)).wf && (Lit.int .u64 (x.2 : Int)).wf) = true := by kernel_rfl

theorem pow_trod (w : World) : DataW.trod (fun _ => ()) Tryz.prog w 0 (fun _ => true) false (1 + 1 + 1) 220 powCells.toList = some (Go.Pinned.pow10Tab, []) := by
  have hel : ∀ i ∈ List.range 696, DataW.trod (fun _ => ()) Tryz.prog w 0 (fun _ => true) false (1 + 1) 219 ((powCells.toList.drop (i * 2)).take 2) =
      some ((fun i => ((.agg [.lit (.int .u64 ((Go.Pinned.pow10Rows.getD i (0, 0)).1 : Nat)), .lit (.int .u64 ((Go.Pinned.pow10Rows.getD i (0, 0)).2 : Nat))] : DataW Unit), ([] : List MemPlace))) i) := by
    intro i hi
    have hi' : i < Go.Pinned.pow10Rows.length := by rw [pow_len]; exact List.mem_range.1 hi
    have e : powCells.toList = Go.Pinned.pow10Rows.flatMap pair64 := rfl
    rw [e, flat2 _ _ hi']
    have hd : Go.Pinned.pow10Rows.getD i (0, 0) = Go.Pinned.pow10Rows[i] := by simp [List.getD, List.getElem?_eq_getElem hi']
    have hwf := List.all_eq_true.1 pow_wf _ (List.getElem_mem hi')
    simp only [hd]
    generalize Go.Pinned.pow10Rows[i] = x at hwf
    simp only [Bool.and_eq_true] at hwf
    obtain ⟨h1, h2⟩ := hwf
    simp [DataW.trod, Tryz.underlying219, Tryz.underlying28, cells219, cells28, pair64, h1, h2]
  unfold DataW.trod
  simp only [Tryz.underlying220, cells220, cells219]
  have hl : powCells.toList.length = 1392 := by
    show (Go.Pinned.pow10Rows.flatMap pair64).length = 1392
    rw [flat2_len, pow_len]
  rw [if_pos hl, mapM_someR _ _ _ hel]
  have hdata : ((List.range 696).map fun i => ((.agg [.lit (.int .u64 ((Go.Pinned.pow10Rows.getD i (0, 0)).1 : Nat)), .lit (.int .u64 ((Go.Pinned.pow10Rows.getD i (0, 0)).2 : Nat))] : DataW Unit))) = Go.Pinned.pow10Rows.map fun x => .agg [.lit (.int .u64 (x.1 : Nat)), .lit (.int .u64 (x.2 : Nat))] := by
    apply List.ext_getElem (by rw [List.length_map, List.length_map, List.length_range, pow_len])
    intro i h1 h2
    have h3 : i < Go.Pinned.pow10Rows.length := by simpa using h2
    simp only [List.getElem_map, List.getElem_range, List.getD, List.getElem?_eq_getElem h3, Option.getD_some]
  unfold Go.Pinned.pow10Tab
  rw [← hdata]
  simp [Function.comp_def]

theorem no_iface (l : List (Nat × Nat)) (u : TypeId) (v : Value) : Value.iface u v ∉ l.flatMap pair64 := by
  intro h
  obtain ⟨x, -, hx⟩ := List.mem_flatMap.1 h
  simp [pair64] at hx
theorem no_if (l : List (Nat × Nat)) (u : TypeId) (v : Value) : Value.iface u v ∉ (l.flatMap pair64).toArray := by
  rw [List.mem_toArray]
  exact no_iface l u v
set_option maxRecDepth 100000 in
theorem pow_in {w : World} (hh : w.heap[9]? = some (.cells powCells 220 (0, 0))) : LaidIn Tryz.prog w [("internal/strconv.pow10Tab", Go.Pinned.pow10Tab)] [9] := by
  have hn : Tryz.prog.globalNamed "internal/strconv.pow10Tab" = some 9 := by kernel_rfl
  have hv : w.var? Tryz.prog "internal/strconv.pow10Tab" = some powCells := by simp [World.var?, hn, hh]
  refine LaidIn.one _ hn (by kernel_rfl) hv (pow_trod w) ?_ ?_ ?_
  · rw [List.append_nil]
    exact rowP_nodup _ _
  · rw [List.append_nil]
    intro b off hp
    obtain ⟨i, hi, e'⟩ := MemPlace.mem_row.1 hp
    cases e'
    refine ⟨⟨_, _, hh⟩, fun u v hc' => ?_⟩
    rw [cell_of_heap hh] at hc'
    have hm := Array.mem_of_getElem? hc'
    exact absurd hm (no_if _ u v)
  · rw [List.append_nil]
    intro x hx
    obtain ⟨i, _, rfl⟩ := MemPlace.mem_row.1 hx
    exact List.mem_singleton.2 rfl

end Go.Proofs.YtcfgjmdfpnfkjaaGreatDoor
set_option linter.unusedVariables false
set_option linter.unusedSimpArgs false
namespace Go.Proofs.YtcfgjmdfpnfkjaaGreatDoor
open Go.RowKit Pf Go.Lib
open Go.ChangeShapes Go.WideShapes Go.ChangeAt

noncomputable def zeroArg : Array Value := #[.agg #[.int .i64 0, .string ⟨#[]⟩, .slice none 0 0]]
theorem small_in (os : Os) : LaidIn Tryz.prog ((laidWorld os).forCall (fun _ _ => 0) ⟨#[], zeroArg, []⟩).memory
    [("math/bits.deBruijn32tab", Rows.laid_math_bits_deBruijn32tab), ("math/bits.deBruijn64tab", Rows.laid_math_bits_deBruijn64tab), ("internal/strconv.float32info", Rows.laid_internal_strconv_float32info), ("internal/strconv.float64info", Rows.laid_internal_strconv_float64info), ("internal/strconv.optimize", Rows.laid_internal_strconv_optimize), ("internal/strconv.powtab", Rows.laid_internal_strconv_powtab), ("internal/strconv.float64pow10", Rows.laid_internal_strconv_float64pow10), ("internal/strconv.float32pow10", Rows.laid_internal_strconv_float32pow10), ("internal/strconv.uint64pow10", Rows.laid_internal_strconv_uint64pow10), ("strconv.ErrRange", Rows.laid_strconv_ErrRange), ("strconv.ErrSyntax", Rows.laid_strconv_ErrSyntax)]
    [12, 13, 3, 5, 4, 7, 20, 8, 21, 6, 19, 10, 2, 24, 1, 23] := LaidIn.of_run _ 8 (by kernel_rfl) (by kernel_rfl) (by kernel_rfl) (by kernel_rfl)
theorem cheats_in (os : Os) : LaidIn Tryz.prog ((laidWorld os).forCall (fun _ _ => 0) ⟨#[], zeroArg, []⟩).memory [("internal/strconv.leftcheats", Go.Pinned.leftcheats)] [11, 22] := LaidIn.of_run _ 8 (by kernel_rfl) (by kernel_rfl) (by kernel_rfl) (by kernel_rfl)
theorem laid_met (os : Os) : laidMet Tryz.prog Rows.fnValDataUptoRow.laid ((laidWorld os).forCall (fun _ _ => 0) ⟨#[], zeroArg, []⟩).memory :=
  (((small_in os).append (cheats_in os) (by decide)).append (pow_in (by kernel_rfl)) (by decide)).met

end Go.Proofs.YtcfgjmdfpnfkjaaGreatDoor
