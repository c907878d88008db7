/- Parts of the proof of the statement that this folder hands in: lemmas and contracts (Dg, Di, Dj, Dk, Na, Nb, Nc, Nd, Ne, Nf, Ng). -/
import Derived.Test.YtcfgjmdfpnfkjaaGreatDoorDf
import Derived.Test.YtcfgjmdfpnfkjaaGreatDoorYdMg
set_option linter.unusedSimpArgs false
set_option linter.unusedVariables false
set_option linter.unusedSimpArgs false
namespace Go.Proofs.YtcfgjmdfpnfkjaaGreatDoor
open Go.RowKit Pf

theorem PD.At.drop6 {w : World} {N : Nat → Prop} {p : PD} {b : Nat} {v0 v1 v2 v3 v4 v5 : Value} {cs : List Value} (h : p.At w (fun k => N k) cs) (hN : ∀ k, N k → b ≠ k) :
    p.At ((((((w.setCell ⟨b, 0, none⟩ v0).setCell ⟨b, 1, none⟩ v1).setCell ⟨b, 2, none⟩ v2).setCell ⟨b, 3, none⟩ v3).setCell ⟨b, 4, none⟩ v4).setCell ⟨b, 5, none⟩ v5) (fun k => N k) cs := by
  refine h.keep fun k hk _ => ⟨?_, hk⟩
  have hne : k ≠ b := fun e => hN k hk e.symm
  rw [Below.heap_setCell _ _ _ _ (by simpa using hne), Below.heap_setCell _ _ _ _ (by simpa using hne), Below.heap_setCell _ _ _ _ (by simpa using hne), Below.heap_setCell _ _ _ _ (by simpa using hne), Below.heap_setCell _ _ _ _ (by simpa using hne),
    Below.heap_setCell _ _ _ _ (by simpa using hne)]

set_option maxRecDepth 100000 in
set_option maxHeartbeats 4000000 in
theorem sv_map (L : LayP) (r : ByteArray) (l : List (ByteArray × GV)) (ih : ∀ j (hj : j < l.length), SvC L (l[j]).2) (A : Option Addr) (c : Nat) (w : World) (hl : l.length ≤ 1048576) (hA : GV.All w A 0 l)
    (hf : ∀ i (h : i < l.length), GV.Fit (l[i]).2) (hL : Lay L w) (hw : 13 ≤ w.heap.size) : Calls Tryz.prog 7 #[.agg (gv 9 r A l.length c)] w (SvR L (.mk 9 r l) w) := by
  have HE0 := Sd.mk (((Ext.refl w).alloc (Obj.cells (gv 9 r A l.length c) 24)).alloc (Obj.cells #[Value.int IntKind.i64 0, Value.bool false, Value.int IntKind.i64 0, Value.int IntKind.u64 0, Value.string { data := #[] }, Value.slice none 0 0] 31))
  have HB := Sd.mk (box_alloc (w.alloc (Obj.cells (gv 9 r A l.length c) 24)) (Obj.cells #[Value.int IntKind.i64 0, Value.bool false, Value.int IntKind.i64 0, Value.int IntKind.u64 0, Value.string { data := #[] }, Value.slice none 0 0] 31))
  have HC := Sd.mk (ob_c L r l ih A c _ hl (hA.ext HE0.out) hf (hL.ext HE0.out) (Nat.le_trans hw HE0.out.size))
  clear ih hA hf hL
  go_enter Tryz.func7, Tryz.ntmps7
  go_wp2_with fail
  refine HC.out.mono ?_
  rintro e w1 ⟨k, b, n, fl, s, A2, len, cp, ok, rfl, he, hok, hp⟩
  have HE := Sd.mk (HE0.out.trans he)
  have HB1 : Sd (w1.heap[w.heap.size + 1]? = some (.cells #[Value.int IntKind.i64 0, Value.bool false, Value.int IntKind.i64 0, Value.int IntKind.u64 0, Value.string { data := #[] }, Value.slice none 0 0] 31 (0, 0))) := ⟨by have := box_ext HB.out he; simpa using this⟩
  have HOK := Sd.mk hok
  have HP := Sd.mk hp
  have hs2 := he.size
  have HS2 : Sd (w.heap.size + 2 ≤ w1.heap.size) := ⟨by simpa using hs2⟩
  clear he hok hp hs2
  have f := box_cell HB1.out
  have fz := box_frozen HB1.out
  go_wp2_with fail
  refine sv_fin (b := w.heap.size + 1) (k := k) (bl := b) (n := n) (f := fl) (s := s) (A := A2) (len := len) (c := cp) (ok := ok) ?_ rfl rfl rfl ?_
  · exact six HB1.out _ _ _ _ _ _
  · refine ⟨k, b, n, fl, s, A2, len, cp, ok, rfl, six_ext HE.out (by omega) _ _ _ _ _ _, HOK.out, fun p hp => ?_⟩
    have h1 := HP.out p hp
    have h2 : p.At w1 (fun q => w.heap.size + 2 ≤ q) (dv k b n fl s A2 len cp).toList := h1.keep fun q hq _ => ⟨rfl, by simpa using hq⟩
    exact (h2.drop6 (fun q hq => by omega)).keep fun q hq _ => ⟨rfl, by omega⟩

theorem sv_c (HS : Sd Shelf) (L : LayP) (v : GV) : SvC L v := by
  induction v using GV.ind with | h k r l ih
  intro cs w hL hw hv hf
  simp only [GV.At] at hv
  obtain ⟨A, c, rfl, hl, hA, hr⟩ := hv
  cases hf with | mk _ _ _ h1 h9 h5 hn h8 hk =>
  have hc : (k = 1 ∨ k = 2 ∨ (k = 3 ∨ k = 4 ∨ k = 7) ∨ k = 5 ∨ k = 6) ∨ k = 8 ∨ k = 9 := by omega
  rcases hc with hc | rfl | rfl
  · obtain rfl := h8 (by omega)
    rcases hc with rfl | rfl | hc | rfl | rfl
    · exact sv_int HS L r A c w hr hL hw
    · exact sv_float HS L r A c w (hn (by omega)) hr hL hw
    · exact sv_text L k r A c w hc
    · exact sv_bool L r A c w
    · exact sv_null L r A c w
  · exact sv_list L r l ih A c w hl hA hk hL hw
  · exact sv_map L r l ih A c w hl hA hk hL hw

end Go.Proofs.YtcfgjmdfpnfkjaaGreatDoor
set_option linter.unusedVariables false
set_option linter.unusedSimpArgs false
namespace Go.Proofs.YtcfgjmdfpnfkjaaGreatDoor
open Go.RowKit Pf

/-- The maker of places, at block m: its counter is of no matter. -/
def MAt (w : World) (m : Nat) : Prop := ∃ (sp : Option Addr) (n : Int), w.heap[m]? = some (.cells #[.pointer sp, .int .i64 n, .bool false] 56 (0, 0))

theorem grown_set (w : World) (a : Addr) (u : Value) : w.grownBy (w.setCell a u) (some a.block) :=
  ⟨rfl, rfl, rfl, by simp, fun k _ hk => Below.heap_setCell _ _ _ _ (fun e => hk (by rw [e]))⟩
theorem grown_ext {w w' : World} {row : Option Nat} (e : Ext w w') : w.grownBy w' row := ⟨e.os, e.tape, e.output, e.size, fun k h _ => e.block k h⟩

set_option maxRecDepth 100000 in
set_option maxHeartbeats 4000000 in
theorem new_c (w : World) : Calls Tryz.prog 19 #[] w (fun e w' => e = .returned (.pointer (some ⟨w.heap.size + 1, 0, none⟩)) ∧ MAt w' (w.heap.size + 1) ∧ Ext w w') := by
  go_enter Tryz.func19, Tryz.ntmps19
  go_wp2_with fail
  go_ret
  exact ⟨rfl, ⟨_, 0, box_alloc2 _ _ _⟩, ((Ext.refl w).alloc _).alloc _⟩

set_option maxRecDepth 100000 in
set_option maxHeartbeats 4000000 in
theorem pos_c (w : World) (m : Nat) (hm : MAt w m) : Calls Tryz.prog 31 #[.pointer (some ⟨m, 0, none⟩)] w (fun e w' => ∃ q, e = .returned (.pointer (some ⟨q, 0, none⟩)) ∧ MAt w' m ∧ w.grownBy w' (some m)) := by
  obtain ⟨src, n, hb⟩ := hm
  have HB := Sd.mk hb
  clear hb
  have f := box_cell HB.out
  have fz := box_frozen HB.out
  go_enter Tryz.func31, Tryz.ntmps31
  go_upto_region 2 with (fail)
  have HB1 : Sd ((w.setCell ⟨m, 1, none⟩ (.int .i64 (wrap64 (n + 1)))).heap[m]? = some (.cells #[.pointer src, .int .i64 (wrap64 (n + 1)), .bool false] 56 (0, 0))) := ⟨box_set HB.out 1 _⟩
  have HG1 := Sd.mk (grown_set w ⟨m, 1, none⟩ (.int .i64 (wrap64 (n + 1))))
  clear f fz
  generalize w.setCell ⟨m, 1, none⟩ (.int .i64 (wrap64 (n + 1))) = W1 at *
  have f := box_cell HB1.out
  go_region_law (fail)
  all_goals
    go_wp2_with fail
    go_ret
    refine ⟨⟨_, rfl⟩, ⟨src, wrap64 (n + 1), ?_⟩, HG1.out.trans (grown_ext ?_)⟩
    rotate_left
    · first | exact ((Ext.refl _).alloc _).drewN 1 | exact ((Ext.refl _).drewN 1).alloc _
    · first | exact box_keep HB1.out _

end Go.Proofs.YtcfgjmdfpnfkjaaGreatDoor
set_option linter.unusedVariables false
set_option linter.unusedSimpArgs false
namespace Go.Proofs.YtcfgjmdfpnfkjaaGreatDoor
open Go.RowKit Pf

theorem MAt.ext {w w' : World} {m : Nat} (h : MAt w m) (e : Ext w w') : MAt w' m := by
  obtain ⟨sp, n, hb⟩ := h
  exact ⟨sp, n, box_ext hb e⟩
theorem MAt.lt {w : World} {m : Nat} (h : MAt w m) : m < w.heap.size := by
  obtain ⟨sp, n, hb⟩ := h
  exact (Array.getElem?_eq_some_iff.1 hb).1

/-- The cells of a value of the parser's tree. -/
abbrev vv (r : ByteArray) (tv : Value) (k : Int) (P : Nat) : Array Value := #[.string r, tv, .int .i64 k, .pointer (some ⟨P, 0, none⟩), .pointer none, .pointer none, .pointer none, .pointer none, .bool false]
/-- The cells of a named child. -/
abbrev cv (nm : ByteArray) (q P : Nat) : Array Value := #[.string nm, .pointer (some ⟨q, 0, none⟩), .pointer (some ⟨P, 0, none⟩), .pointer none]
mutual
/-- A value of the parser's tree in a world, at block q; all its blocks are of N. -/
def VAt (w : World) (N : Nat → Prop) : GV → Nat → Prop
  | .mk k r l, q => ∃ A c P, N q ∧ w.heap[q]? = some (.cells (vv r (.slice A l.length c) k P) 81 (0, 0)) ∧ VAll w N A 0 l
/-- A row of pointers to named children from place i on. -/
def VAll (w : World) (N : Nat → Prop) (A : Option Addr) : Nat → List (ByteArray × GV) → Prop
  | _, [] => True
  | i, (nm, x) :: r => (∃ ad qc qv P, A = some ad ∧ N ad.block ∧ w.cell? (ad.add i) = some (.pointer (some ⟨qc, 0, none⟩)) ∧ N qc ∧ w.heap[qc]? = some (.cells (cv nm qv P) 84 (0, 0)) ∧ VAt w N x qv) ∧ VAll w N A (i + 1) r
end
theorem heap_lt {w : World} {q : Nat} {o : Obj} (h : w.heap[q]? = some o) : q < w.heap.size := (Array.getElem?_eq_some_iff.1 h).1
mutual
theorem VAt.keep {w w' : World} {N N' : Nat → Prop} (e : ∀ k, N k → k < w.heap.size → w'.heap[k]? = w.heap[k]? ∧ N' k) : ∀ {v : GV} {q : Nat}, VAt w N v q → VAt w' N' v q
  | .mk k r l, q, h => by
    simp only [VAt] at h ⊢
    obtain ⟨A, c, P, hN, h0, h1⟩ := h
    obtain ⟨e1, e2⟩ := e q hN (heap_lt h0)
    exact ⟨A, c, P, e2, e1.trans h0, VAll.keep e h1⟩
theorem VAll.keep {w w' : World} {N N' : Nat → Prop} (e : ∀ k, N k → k < w.heap.size → w'.heap[k]? = w.heap[k]? ∧ N' k) : ∀ {l : List (ByteArray × GV)} {A : Option Addr} {i : Nat}, VAll w N A i l → VAll w' N' A i l
  | [], _, _, _ => by simp [VAll]
  | (nm, x) :: r, A, i, h => by
    simp only [VAll] at h ⊢
    obtain ⟨⟨ad, qc, qv, P, h0, hN, h1, hN2, h2, h5⟩, h3⟩ := h
    have hlt := World.block_lt_of_cell? w _ h1
    rw [add_in] at hlt
    obtain ⟨e1, e2⟩ := e _ hN hlt
    obtain ⟨e3, e4⟩ := e _ hN2 (heap_lt h2)
    exact ⟨⟨ad, qc, qv, P, h0, e2, cell_in h1 (by rw [add_in]; exact e1), e4, e3.trans h2, VAt.keep e h5⟩, VAll.keep e h3⟩
end
/-- Named children, and the pointers to them. -/
def VRows (w : World) (N : Nat → Prop) : List (ByteArray × GV) → List Value → Prop
  | [], xs => xs = []
  | (nm, x) :: r, xs => ∃ qc qv P rest, xs = .pointer (some ⟨qc, 0, none⟩) :: rest ∧ N qc ∧ w.heap[qc]? = some (.cells (cv nm qv P) 84 (0, 0)) ∧ VAt w N x qv ∧ VRows w N r rest
theorem VRows.keep {w w' : World} {N N' : Nat → Prop} (e : ∀ k, N k → k < w.heap.size → w'.heap[k]? = w.heap[k]? ∧ N' k) : ∀ {l : List (ByteArray × GV)} {xs : List Value}, VRows w N l xs → VRows w' N' l xs
  | [], _, h => h
  | (nm, x) :: r, xs, h => by
    obtain ⟨qc, qv, P, rest, h0, hN, h1, h2, h3⟩ := h
    obtain ⟨e1, e2⟩ := e _ hN (heap_lt h1)
    exact ⟨qc, qv, P, rest, h0, e2, e1.trans h1, h2.keep e, VRows.keep e h3⟩
theorem VRows.append {w : World} {N : Nat → Prop} : ∀ {l l' : List (ByteArray × GV)} {xs xs' : List Value}, VRows w N l xs → VRows w N l' xs' → VRows w N (l ++ l') (xs ++ xs')
  | [], l', xs, xs', h, h' => by cases h; simpa using h'
  | (nm, x) :: r, l', xs, xs', h, h' => by
    obtain ⟨qc, qv, P, rest, rfl, hN, h1, h2, h3⟩ := h
    exact ⟨qc, qv, P, rest ++ xs', rfl, hN, h1, h2, VRows.append h3 h'⟩
theorem VRows.one {w : World} {N : Nat → Prop} {nm : ByteArray} {x : GV} {qc qv P : Nat} (hN : N qc) (h1 : w.heap[qc]? = some (.cells (cv nm qv P) 84 (0, 0))) (h2 : VAt w N x qv) : VRows w N [(nm, x)] [.pointer (some ⟨qc, 0, none⟩)] :=
  ⟨qc, qv, P, [], rfl, hN, h1, h2, rfl⟩
theorem VRows.all {w : World} {N N' : Nat → Prop} {ad : Addr} (hN' : ∀ k, N k → N' k) (had : N' ad.block) : ∀ {l : List (ByteArray × GV)} {xs : List Value} {i : Nat}, VRows w N l xs → (∀ j u, xs[j]? = some u → w.cell? (ad.add (i + j)) = some u) → VAll w N' (some ad) i l
  | [], _, _, _, _ => by simp [VAll]
  | (nm, x) :: r, xs, i, h, hc => by
    obtain ⟨qc, qv, P, rest, rfl, hN, h1, h2, h3⟩ := h
    simp only [VAll]
    exact ⟨⟨ad, qc, qv, P, rfl, had, hc 0 _ rfl, hN' _ hN, h1, h2.keep fun k hk _ => ⟨rfl, hN' _ hk⟩⟩, VRows.all hN' had h3 fun j u hu => by
      have := hc (j + 1) u (by simpa using hu)
      rwa [show i + (j + 1) = i + 1 + j by omega] at this⟩

end Go.Proofs.YtcfgjmdfpnfkjaaGreatDoor
set_option linter.unusedVariables false
set_option linter.unusedSimpArgs false
namespace Go.Proofs.YtcfgjmdfpnfkjaaGreatDoor
open Go.RowKit Pf

def ValR (w : World) (m : Nat) (v : GV) (e : Ending) (w' : World) : Prop :=
  ∃ q, e = .returned (.pointer (some ⟨q, 0, none⟩)) ∧ MAt w' m ∧ w.grownBy w' (some m) ∧ VAt w' (fun k => w.heap.size ≤ k) v q
def ValC (v : GV) : Prop := ∀ (w0 w : World) (m : Nat) (cs : List Value), v.At w0 cs → v.Fit → Ext w0 w → w0.heap.size ≤ m → MAt w m → Calls Tryz.prog 20 #[.pointer (some ⟨m, 0, none⟩), .agg cs.toArray] w (ValR w m v)

/-- What a child's region keeps. -/
def VJ (w0 wy : World) (m : Nat) (W : World) : Prop := Ext w0 W ∧ MAt W m ∧ wy.grownBy W (some m)
theorem VJ.after {w0 wy W W' : World} {m : Nat} (h : VJ w0 wy m W) (hm0 : w0.heap.size ≤ m) (hm : MAt W' m) (hg : W.grownBy W' (some m)) : VJ w0 wy m W' :=
  ⟨⟨hg.os.trans h.1.os, hg.tape.trans h.1.tape, hg.output.trans h.1.output, Nat.le_trans h.1.size hg.size, fun k hk => (hg.block k (Nat.lt_of_lt_of_le hk h.1.size) (by simp; omega)).trans (h.1.block k hk)⟩, hm, h.2.2.trans hg⟩
theorem VJ.box {w0 wy W : World} {m g : Nat} {o : Obj} (h : VJ w0 wy m W) (hb : wy.heap[g]? = some o) (hne : g ≠ m) : W.heap[g]? = some o :=
  (h.2.2.block g (heap_lt hb) (by simpa using hne)).trans hb

/-- What the loop over the children keeps. -/
def VlI (k : Int) (r : ByteArray) (l : List (ByteArray × GV)) (A : Option Addr) (c P : Nat) (w0 w : World) (m b : Nat) (wr : World) (j : Nat) (xs : List Value) (tv : Value) : Prop :=
  Ext w0 wr ∧ MAt wr m ∧ w.grownBy wr (some m) ∧ wr.heap[w.heap.size]? = some (.cells (gv k r A l.length c) 24 (0, 0)) ∧ wr.heap[b]? = some (.cells (vv r tv k P) 81 (0, 0)) ∧ wr.ownsRow (b + 1) 82 1 tv j xs ∧ VRows wr (NK (b + 1) tv) (l.take j) xs

theorem VRows.grown {w w2 : World} {base H g n cap : Nat} {v : Value} {l : List (ByteArray × GV)} {xs : List Value} (h : VRows w (NK base v) l xs) (hg : w.grownBy w2 v.ownBlock) (hat : v.ownBlock = some g ∨ g = H) (hH : w.heap.size = H) :
    VRows w2 (NK base (.slice (some ⟨g, 0, none⟩) n cap)) l xs := by
  refine h.keep fun k hk hlt => ⟨hg.block k hlt (fun e => hk.2 e.symm), hk.1, ?_⟩
  intro e
  simp only [Value.ownBlock] at e
  have e' : g = k := by simpa using e
  subst e'
  rcases hat with h1 | h1
  · exact hk.2 h1
  · omega

theorem VlI.turn {k : Int} {r : ByteArray} {l : List (ByteArray × GV)} {A : Option Addr} {c P : Nat} {w0 w wy w5 w8 : World} {m b j : Nat} {xs : List Value} {tv : Value} {qv qp g2 cap2 : Nat}
    (hmw : m < w.heap.size) (hbw : w.heap.size + 1 ≤ b) (hm0 : w0.heap.size ≤ m) (hj : j < l.length) (hgy : w.grownBy wy (some m)) (hJ : VJ w0 wy m w5) (hb1 : wy.heap[w.heap.size]? = some (.cells (gv k r A l.length c) 24 (0, 0))) (hb2 : wy.heap[b]? = some (.cells (vv r tv k P) 81 (0, 0)))
    (ho : wy.ownsRow (b + 1) 82 1 tv j xs) (hr : VRows wy (NK (b + 1) tv) (l.take j) xs) (hv : VAt w5 (fun q => wy.heap.size ≤ q) (l[j]).2 qv) (hby : b + 1 ≤ wy.heap.size)
    (hown : w8.ownsRow (b + 1) 82 1 (.slice (some ⟨g2, 0, none⟩) (j + 1) cap2) (j + 1) (xs ++ [.pointer (some ⟨w5.heap.size, 0, none⟩)]))
    (hgrow : ((w5.alloc (.cells (cv (l[j]).1 qv qp) 84)).alloc (.cells #[.pointer (some ⟨w5.heap.size, 0, none⟩)] 82)).grownBy w8 tv.ownBlock) (hat : tv.ownBlock = some g2 ∨ g2 = w5.heap.size + 2) :
    VlI k r l A c P w0 w m b (w8.setCell ⟨b, 1, none⟩ (.slice (some ⟨g2, 0, none⟩) (j + 1) cap2)) (j + 1) (xs ++ [.pointer (some ⟨w5.heap.size, 0, none⟩)]) (.slice (some ⟨g2, 0, none⟩) (j + 1) cap2) := by
  have ho5 : w5.ownsRow (b + 1) 82 1 tv j xs := ho.kept hJ.2.2 (Or.inr fun e => by have := owns_base ho m e; omega)
  have hr5 : VRows w5 (NK (b + 1) tv) (l.take j) xs := hr.keep fun q hq hl => ⟨hJ.2.2.block q hl (by have := hq.1; simp; omega), hq⟩
  have h5s := hJ.2.2.size
  have hx : Ext w5 ((w5.alloc (.cells (cv (l[j]).1 qv qp) 84)).alloc (.cells #[.pointer (some ⟨w5.heap.size, 0, none⟩)] 82)) := ((Ext.refl w5).alloc _).alloc _
  have hus : ((w5.alloc (.cells (cv (l[j]).1 qv qp) 84)).alloc (.cells #[.pointer (some ⟨w5.heap.size, 0, none⟩)] 82)).heap.size = w5.heap.size + 2 := by simp
  have hoU : ((w5.alloc (.cells (cv (l[j]).1 qv qp) 84)).alloc (.cells #[.pointer (some ⟨w5.heap.size, 0, none⟩)] 82)).ownsRow (b + 1) 82 1 tv j xs := World.ownsRow.alloc (World.ownsRow.alloc ho5 _) _
  obtain ⟨hE8, hbox⟩ := grow_pack ((hJ.1.alloc _).alloc _) (show w0.heap.size ≤ b + 1 by omega) hoU hgrow
  have hown5 := own_lt ho5
  have hV : VAt ((w5.alloc (.cells (cv (l[j]).1 qv qp) 84)).alloc (.cells #[.pointer (some ⟨w5.heap.size, 0, none⟩)] 82)) (NK (b + 1) tv) (l[j]).2 qv := hv.keep fun q hq hl => ⟨hx.block q hl, by omega, fun e => by have := (own_lt ho q e).2; omega⟩
  have hrU : VRows ((w5.alloc (.cells (cv (l[j]).1 qv qp) 84)).alloc (.cells #[.pointer (some ⟨w5.heap.size, 0, none⟩)] 82)) (NK (b + 1) tv) (l.take (j + 1)) (xs ++ [.pointer (some ⟨w5.heap.size, 0, none⟩)]) := by
    rw [List.take_succ_eq_append_getElem hj]
    refine (hr5.keep fun q hq hl => ⟨hx.block q hl, hq⟩).append ?_
    exact VRows.one (nm := (l[j]).1) (x := (l[j]).2) ⟨by omega, fun e => by have := (hown5 _ e).2; omega⟩ (box_keep (box_alloc w5 _) _) hV
  have hr8 := hrU.grown (n := j + 1) (cap := cap2) hgrow hat hus
  refine ⟨hE8.setCell (by simp; omega) _, ?_, ?_, ?_, ?_, ownsRow_setCell_below hown (by simp) _, ?_⟩
  · obtain ⟨sp, n, hm⟩ := hJ.2.1
    exact ⟨sp, n, box_other (hbox m _ (by omega) (box_ext hm hx)) _ (by simp; omega) _⟩
  · have g1 := hgy.trans hJ.2.2
    have g2 := g1.trans (grown_ext hx)
    have g3 := g2.andThen hgrow (fun q hq => Or.inl (by have := owns_base hoU q hq; omega))
    exact g3.andThen (grown_set _ _ _) (fun q hq => Or.inl (by simp at hq; omega))
  · exact box_other (hbox _ _ (by omega) (box_ext (hJ.box hb1 (by omega)) hx)) _ (by simp; omega) _
  · exact box_set (hbox _ _ (by omega) (box_ext (hJ.box hb2 (by omega)) hx)) 1 _
  · refine hr8.keep fun q hq hl => ⟨Below.heap_setCell _ _ _ _ (by have := hq.1; simp; omega), hq⟩

theorem info82 : (Tryz.prog.info? 82).map (fun i => (i.zero, i.size, i.bytes)) = some (some (.pointer none), 1, 8) := by kernel_rfl


end Go.Proofs.YtcfgjmdfpnfkjaaGreatDoor
set_option linter.unusedVariables false
set_option linter.unusedSimpArgs false
namespace Go.Proofs.YtcfgjmdfpnfkjaaGreatDoor
open Go.RowKit Pf

theorem vaR_some {L : LayP} {v : GV} {w w' : World} {x : Value} {p : PD} (h : gd L v = some p) (hx : Any w' (fun k => w.heap.size ≤ k) x p) (he : Ext w w') : VaR L v w (.returned (.tuple #[x, .nilIface])) w' :=
  ⟨x, .nilIface, rfl, he, .inl ⟨by rw [h]; rfl, rfl⟩, fun p' hp => by rw [h] at hp; cases hp; exact hx⟩
theorem vaR_none {L : LayP} {v : GV} {w w' : World} {x y : Value} (h : gd L v = none) (he : Ext w w') : VaR L v w (.returned (.tuple #[x, .iface 107 y])) w' :=
  ⟨x, _, rfl, he, .inr ⟨by rw [h]; rfl, y, rfl⟩, fun p' hp => by rw [h] at hp; cases hp⟩

set_option maxRecDepth 100000 in
set_option maxHeartbeats 4000000 in
theorem va_text (L : LayP) (k : Int) (r : ByteArray) (A : Option Addr) (c P q : Nat) (w : World) (hq : w.heap[q]? = some (.cells (vv r (.slice A 0 c) k P) 81 (0, 0))) (hk : k = 3 ∨ k = 4 ∨ k = 7) :
    Calls Tryz.prog 21 #[.pointer (some ⟨q, 0, none⟩), .map none] w (VaR L (.mk k r []) w) := by
  have hg : Sd (gd L (.mk k r []) = some (.mk 4 false 0 0 r [])) := ⟨by rcases hk with rfl | rfl | rfl <;> simp [gd]⟩
  have f := box_cell hq
  clear hq
  rcases hk with rfl | rfl | rfl
  all_goals
    go_enter Tryz.func21, Tryz.ntmps21
    go_wp2_with fail
    refine bodyPost_ret (v := .tuple #[.iface 9 (.string r), .nilIface]) (by simp [results, Tryz.results21, go_sem]) rfl (vaR_some hg.out (.text r) (Ext.refl _))

set_option maxRecDepth 100000 in
set_option maxHeartbeats 4000000 in
theorem va_null (L : LayP) (r : ByteArray) (A : Option Addr) (c P q : Nat) (w : World) (hq : w.heap[q]? = some (.cells (vv r (.slice A 0 c) 6 P) 81 (0, 0))) :
    Calls Tryz.prog 21 #[.pointer (some ⟨q, 0, none⟩), .map none] w (VaR L (.mk 6 r []) w) := by
  have hg : Sd (gd L (.mk 6 r []) = some (.mk 0 false 0 0 noS [])) := ⟨by simp [gd]⟩
  have f := box_cell hq
  clear hq
  go_enter Tryz.func21, Tryz.ntmps21
  go_wp2_with fail
  refine bodyPost_ret (v := .tuple #[.nilIface, .nilIface]) (by simp [results, Tryz.results21, go_sem]) rfl (vaR_some hg.out .nul (Ext.refl _))

set_option maxRecDepth 100000 in
set_option maxHeartbeats 4000000 in
theorem va_int (HS : Sd Shelf) (L : LayP) (r : ByteArray) (A : Option Addr) (c P q : Nat) (w : World) (hq : w.heap[q]? = some (.cells (vv r (.slice A 0 c) 1 P) 81 (0, 0))) (hr : r.size ≤ 1048576) (hL : Lay L w) (hw : 13 ≤ w.heap.size) :
    Calls Tryz.prog 21 #[.pointer (some ⟨q, 0, none⟩), .map none] w (VaR L (.mk 1 r []) w) := by
  have hg : Sd (gd L (.mk 1 r []) = if (piV L r).2 then none else some (.mk 2 false (piV L r).1 0 noS [])) := ⟨by simp [gd]⟩
  have HP := Sd.mk (piV_c (HS.out.int L r hr))
  generalize piV L r = X at hg HP
  obtain ⟨n, bad⟩ := X
  have f := box_cell hq
  clear hq
  go_enter Tryz.func21, Tryz.ntmps21
  go_wp2_with fail
  refine (HP.out w hL hw).mono ?_
  rintro e w1 ⟨ev, rfl, hev, he⟩
  have HE := Sd.mk he
  clear he f
  rcases hev with ⟨rfl, rfl⟩ | ⟨rfl, x, rfl⟩
  · go_wp2_with fail
    refine bodyPost_ret (v := .tuple #[.iface 2 (.int .i64 n), .nilIface]) (by simp [results, Tryz.results21, go_sem]) rfl (vaR_some hg.out (.int n) HE.out)
  · go_wp2_with fail
    refine bodyPost_ret (v := .tuple #[.iface 2 (.int .i64 n), .iface 107 x]) (by simp [results, Tryz.results21, go_sem]) rfl (vaR_none hg.out HE.out)

set_option maxRecDepth 100000 in
set_option maxHeartbeats 4000000 in
theorem va_float (HS : Sd Shelf) (L : LayP) (r : ByteArray) (A : Option Addr) (c P q : Nat) (w : World) (hq : w.heap[q]? = some (.cells (vv r (.slice A 0 c) 2 P) 81 (0, 0))) (hn : NumS r) (hr : r.size ≤ 1048576) (hL : Lay L w) (hw : 13 ≤ w.heap.size) :
    Calls Tryz.prog 21 #[.pointer (some ⟨q, 0, none⟩), .map none] w (VaR L (.mk 2 r []) w) := by
  have hg : Sd (gd L (.mk 2 r []) = if (pfV L r).2 then none else some (.mk 3 false 0 (pfV L r).1 noS [])) := ⟨by simp [gd]⟩
  have HP := Sd.mk (pfV_c (pf_e ⟨HS.out.len⟩ ⟨HS.out.err⟩ L r hn hr))
  generalize pfV L r = X at hg HP
  obtain ⟨n, bad⟩ := X
  have f := box_cell hq
  clear hq
  go_enter Tryz.func21, Tryz.ntmps21
  go_wp2_with fail
  refine (HP.out w hL hw).mono ?_
  rintro e w1 ⟨ev, rfl, hev, he⟩
  have HE := Sd.mk he
  clear he f
  rcases hev with ⟨rfl, rfl⟩ | ⟨rfl, x, rfl⟩
  · go_wp2_with fail
    refine bodyPost_ret (v := .tuple #[.iface 44 (.float .f64 n), .nilIface]) (by simp [results, Tryz.results21, go_sem]) rfl (vaR_some hg.out (.flt n) HE.out)
  · go_wp2_with fail
    refine bodyPost_ret (v := .tuple #[.iface 44 (.float .f64 n), .iface 107 x]) (by simp [results, Tryz.results21, go_sem]) rfl (vaR_none hg.out HE.out)

end Go.Proofs.YtcfgjmdfpnfkjaaGreatDoor
set_option linter.unusedVariables false
set_option linter.unusedSimpArgs false
namespace Go.Proofs.YtcfgjmdfpnfkjaaGreatDoor
open Go.RowKit Pf

def falseS : ByteArray := ⟨#[102, 97, 108, 115, 101]⟩
theorem trueL : trueS.toList = [116, 114, 117, 101] := by first | kernel_rfl | simp [trueS] | (unfold trueS; rfl)
theorem falseL : falseS.toList = [102, 97, 108, 115, 101] := by first | kernel_rfl | simp [falseS]
theorem nk5 {r : ByteArray} (h : nk r = 5) : r = trueS ∨ r = falseS := by
  unfold nk at h
  split at h
  · next e => exact .inl (toList_inj (by rw [eq_of_beq e, trueL]))
  · split at h
    · next e => exact .inr (toList_inj (by rw [eq_of_beq e, falseL]))
    · split at h <;> cases h

set_option maxRecDepth 100000 in
set_option maxHeartbeats 4000000 in
theorem pb44_t (w : World) : Calls Tryz.prog 44 #[.string trueS] w fun e w' => e = .returned (.tuple #[.bool true, .nilIface]) ∧ w' = w := by
  unfold trueS
  go_enter Tryz.func44, Tryz.ntmps44
  go_wp2_with fail
  go_ret2
  exact ⟨rfl, rfl⟩
set_option maxRecDepth 100000 in
set_option maxHeartbeats 4000000 in
theorem pb44_f (w : World) : Calls Tryz.prog 44 #[.string falseS] w fun e w' => e = .returned (.tuple #[.bool false, .nilIface]) ∧ w' = w := by
  unfold falseS
  go_enter Tryz.func44, Tryz.ntmps44
  go_wp2_with fail
  go_ret2
  exact ⟨rfl, rfl⟩
set_option maxRecDepth 100000 in
set_option maxHeartbeats 4000000 in
theorem pb_c (r : ByteArray) (w : World) (h : nk r = 5) : Calls Tryz.prog 32 #[.string r] w fun e w' => e = .returned (.tuple #[.bool (r.toList == [116, 114, 117, 101]), .nilIface]) ∧ w' = w := by
  have hb : Sd (∃ b, (r.toList == [116, 114, 117, 101]) = b ∧ ∀ w, Calls Tryz.prog 44 #[.string r] w fun e w' => e = .returned (.tuple #[.bool b, .nilIface]) ∧ w' = w) := ⟨by
    rcases nk5 h with rfl | rfl
    · exact ⟨true, by rw [trueL]; decide, pb44_t⟩
    · exact ⟨false, by rw [falseL]; decide, pb44_f⟩⟩
  obtain ⟨b, hb1, hb2⟩ := hb.out
  have H := Sd.mk hb2
  rw [hb1]
  clear hb hb1 hb2 h
  go_enter Tryz.func32, Tryz.ntmps32
  go_wp2_with fail
  refine (H.out w).mono ?_
  rintro e w1 ⟨rfl, rfl⟩
  go_wp2_with fail
  go_ret2
  exact ⟨rfl, rfl⟩

set_option maxRecDepth 100000 in
set_option maxHeartbeats 4000000 in
theorem va_bool (L : LayP) (r : ByteArray) (A : Option Addr) (c P q : Nat) (w : World) (hq : w.heap[q]? = some (.cells (vv r (.slice A 0 c) 5 P) 81 (0, 0))) (h5 : nk r = 5) :
    Calls Tryz.prog 21 #[.pointer (some ⟨q, 0, none⟩), .map none] w (VaR L (.mk 5 r []) w) := by
  have hg : Sd (gd L (.mk 5 r []) = some (.mk 1 (r.toList == [116, 114, 117, 101]) 0 0 noS [])) := ⟨by simp [gd]⟩
  have H := Sd.mk (fun w => pb_c r w h5)
  have f := box_cell hq
  generalize (r.toList == [116, 114, 117, 101]) = b at hg H
  clear hq h5
  go_enter Tryz.func21, Tryz.ntmps21
  go_wp2_with fail
  refine (H.out w).mono ?_
  rintro e w1 ⟨rfl, rfl⟩
  go_wp2_with fail
  refine bodyPost_ret (v := .tuple #[.iface 4 (.bool b), .nilIface]) (by simp [results, Tryz.results21, go_sem]) rfl (vaR_some hg.out (.bool b) (Ext.refl _))

set_option maxRecDepth 100000 in
set_option maxHeartbeats 4000000 in
theorem isset_c (r : ByteArray) (tv : Value) (k : Int) (P q : Nat) (w : World) (hq : w.heap[q]? = some (.cells (vv r tv k P) 81 (0, 0))) (hk : 1 ≤ k) :
    Calls Tryz.prog 33 #[.pointer (some ⟨q, 0, none⟩), .map none] w fun e w' => e = .returned (.bool false) ∧ w' = w := by
  have f := box_cell hq
  have hk0 : (k == 0) = false := by simp; omega
  clear hq
  go_enter Tryz.func33, Tryz.ntmps33
  go_wp2_with fail
  go_ret
  exact ⟨rfl, rfl⟩

end Go.Proofs.YtcfgjmdfpnfkjaaGreatDoor
set_option linter.unusedVariables false
set_option linter.unusedSimpArgs false
namespace Go.Proofs.YtcfgjmdfpnfkjaaGreatDoor
open Go.RowKit Pf

theorem add_at0 (g q : Nat) : (⟨g, 0, none⟩ : Addr).add q = ⟨g, q, none⟩ := by
  unfold Addr.add
  split <;> simp_all
theorem info20 : (Tryz.prog.info? 20).map (fun i => (i.zero, i.size, i.bytes)) = some (some .nilIface, 1, 16) := by kernel_rfl
theorem VAt.ext {w w' : World} {N : Nat → Prop} (e : Ext w w') {v : GV} {q : Nat} (h : VAt w N v q) : VAt w' N v q := h.keep fun k hN hk => ⟨e.block k hk, hN⟩
theorem VAll.get {w : World} {N : Nat → Prop} {A : Option Addr} : ∀ {l : List (ByteArray × GV)} {i : Nat}, VAll w N A i l → ∀ k (h : k < l.length),
    ∃ ad qc qv P, A = some ad ∧ w.cell? (ad.add (i + k)) = some (.pointer (some ⟨qc, 0, none⟩)) ∧ w.heap[qc]? = some (.cells (cv (l[k]).1 qv P) 84 (0, 0)) ∧ VAt w N (l[k]).2 qv
  | [], _, _, k, h => absurd h (by simp)
  | (nm, x) :: r, i, hA, 0, _ => by
    simp only [VAll] at hA
    obtain ⟨⟨ad, qc, qv, P, h0, hN, h1, hN2, h2, h5⟩, -⟩ := hA
    exact ⟨ad, qc, qv, P, h0, by simpa using h1, h2, h5⟩
  | (nm, x) :: r, i, hA, k + 1, h => by
    simp only [VAll] at hA
    have := VAll.get (l := r) hA.2 k (by simpa using h)
    simpa [Nat.add_assoc, Nat.add_comm 1 k] using this

/-- A row of anys that are read as data. -/
def ARow (w : World) (N : Nat → Prop) (l : List (ByteArray × PD)) (xs : List Value) : Prop := xs.length = l.length ∧ ∀ i (h : i < l.length) u, xs[i]? = some u → Any w N u (l[i]).2
theorem ARow.keep {w w' : World} {N N' : Nat → Prop} {l : List (ByteArray × PD)} {xs : List Value} (h : ARow w N l xs) (e : ∀ k, N k → k < w.heap.size → w'.heap[k]? = w.heap[k]? ∧ N' k) : ARow w' N' l xs :=
  ⟨h.1, fun i hi u hu => (h.2 i hi u hu).keep e⟩
theorem ARow.snoc {w : World} {N : Nat → Prop} {l : List (ByteArray × PD)} {xs : List Value} {p : ByteArray × PD} {x : Value} (h : ARow w N l xs) (hx : Any w N x p.2) : ARow w N (l ++ [p]) (xs ++ [x]) := by
  refine ⟨by simp [h.1], fun i hi u hu => ?_⟩
  by_cases e : i < l.length
  · rw [List.getElem?_append_left (by rw [h.1]; exact e)] at hu
    rw [List.getElem_append_left e]
    exact h.2 i e u hu
  · have e2 : i = l.length := by simp at hi; omega
    subst e2
    rw [List.getElem?_append_right (by rw [h.1]; exact Nat.le_refl _), h.1] at hu
    simp at hu
    subst hu
    simpa using hx
theorem ARow.grown {w w2 : World} {base H g n cap : Nat} {v : Value} {l : List (ByteArray × PD)} {xs : List Value} (h : ARow w (NK base v) l xs) (hg : w.grownBy w2 v.ownBlock) (hat : v.ownBlock = some g ∨ g = H) (hH : w.heap.size = H) :
    ARow w2 (NK base (.slice (some ⟨g, 0, none⟩) n cap)) l xs := by
  refine h.keep fun k hk hlt => ⟨hg.block k hlt (fun e => hk.2 e.symm), hk.1, ?_⟩
  intro e
  simp only [Value.ownBlock] at e
  have e' : g = k := by simpa using e
  subst e'
  rcases hat with h1 | h1
  · exact hk.2 h1
  · omega

def VaC (L : LayP) (v : GV) : Prop := ∀ (w0 w : World) (cs : List Value) (N : Nat → Prop) (q : Nat), v.At w0 cs → v.Fit → VAt w N v q → Lay L w → 13 ≤ w.heap.size → Calls Tryz.prog 21 #[.pointer (some ⟨q, 0, none⟩), .map none] w (VaR L v w)

theorem any_list {w : World} {base : Nat} {l : List (ByteArray × PD)} {tv : Value} {xs : List Value} (hl : l.length ≤ 1048576) (ho : w.ownsRow base 20 1 tv l.length xs) (hr : ARow w (NK base tv) l xs) :
    Any w (fun k => base ≤ k) (.iface 93 tv) (.mk 5 false 0 0 noS (l.map fun p => (noS, p.2))) := by
  have hb := owns_base ho
  have hA : ∀ i (h : i < l.length), Any w (fun k => base ≤ k) ((fun i => (xs[i]?).getD .nilIface) i) (l[i]).2 := fun i h => by
    have h1 : i < xs.length := by rw [hr.1]; exact h
    have h2 := hr.2 i h xs[i] (List.getElem?_eq_getElem h1)
    show Any w _ ((xs[i]?).getD .nilIface) _
    rw [List.getElem?_eq_getElem h1]
    exact h2.keep fun k hk _ => ⟨rfl, hk.1⟩
  rcases ho.2 with ⟨rfl, h0⟩ | ⟨g, cap, cur, rfl, hg1, hg2, hg3, hg4, hg5, hg6⟩
  · obtain rfl : l = [] := List.eq_nil_of_length_eq_zero h0
    exact .list [] none 0 _ (by simp) (fun i h => absurd h (by simp)) hA
  · refine .list l (some ⟨g, 0, none⟩) cap _ hl (fun i hi => ⟨_, rfl, hg1, ?_⟩) hA
    have h1 : i < xs.length := by rw [hr.1]; exact hi
    rw [add_at0]
    show w.cell? _ = some ((xs[i]?).getD .nilIface)
    rw [ho.cellAt i (by omega), List.getElem?_eq_getElem h1]
    rfl

end Go.Proofs.YtcfgjmdfpnfkjaaGreatDoor
set_option linter.unusedVariables false
set_option linter.unusedSimpArgs false
namespace Go.Proofs.YtcfgjmdfpnfkjaaGreatDoor
open Go.RowKit Pf

theorem cell_one_at (w : World) (u : Value) (t : TypeId) : ∀ q v, [u][q]? = some v → (w.alloc (.cells #[u] t)).cell? ((⟨w.heap.size, 0, none⟩ : Addr).add q) = some v := fun q v h => by
  have := cells_at (w := w) #[u] t q v h
  exact this

set_option maxRecDepth 100000 in
set_option maxHeartbeats 4000000 in
theorem va_list (L : LayP) (r : ByteArray) (l : List (ByteArray × GV)) (ih : ∀ j (hj : j < l.length), VaC L (l[j]).2) (A : Option Addr) (c : Nat) (A0 : Option Addr) (P q : Nat) (w0 w : World) (N : Nat → Prop) (hl : l.length ≤ 1048576) (hA0 : GV.All w0 A0 0 l)
    (hf : ∀ i (h : i < l.length), GV.Fit (l[i]).2) (hq : w.heap[q]? = some (.cells (vv r (.slice A l.length c) 8 P) 81 (0, 0))) (hA : VAll w N A 0 l) (hL : Lay L w) (hw : 13 ≤ w.heap.size) :
    Calls Tryz.prog 21 #[.pointer (some ⟨q, 0, none⟩), .map none] w (VaR L (.mk 8 r l) w) := by
  obtain ⟨i0, hi, hz0, hz1, hz2⟩ := info_parts info20
  have HA := Sd.mk hA
  have HA0 := Sd.mk hA0
  have IH := Sd.mk ih
  have HF := Sd.mk hf
  have HL := Sd.mk hL
  have f := box_cell hq
  clear hA hA0 ih hf hL hq
  go_enter Tryz.func21, Tryz.ntmps21
  go_wp2_with fail
  clear f
  go_loopg [8, 112] l.length (fun g v8 v112 wr => ∃ (j : Nat) (ps : List (ByteArray × PD)) (xs : List Value), v112 = .int .i64 j ∧ g + j = l.length ∧ Sd (Ext w wr) ∧ Sd (wr.ownsRow w.heap.size 20 1 v8 j xs) ∧ Sd (ARow wr (NK w.heap.size v8) ps xs) ∧ Sd (GotTo L l j ps))
  case atStart => exact ⟨0, [], [], rfl, by omega, ⟨Ext.refl _⟩, ⟨World.ownsRow_nil _ _ _ _⟩, ⟨rfl, fun i h => absurd h (by simp)⟩, ⟨GotTo.nil _ _⟩⟩
  case round =>
    obtain ⟨j, ps, xs, rfl, hg, HE, HO, HR, HT⟩ := hrel
    by_cases hj : j < l.length
    · obtain ⟨ad, qc, qv, P2, rfl, e0, e1, hv⟩ := HA.out.get j hj
      have HV := Sd.mk hv
      rw [Nat.zero_add] at e0
      have e0 := HE.out.cell e0
      have f := box_cell (box_ext e1 HE.out)
      obtain ⟨ad0, cs0, -, hAt0, -⟩ := HA0.out.get j hj
      have HAT := Sd.mk hAt0
      clear e1 hv hAt0
      go_wp2_with fail
      refine (IH.out j hj w0 wr _ N qv HAT.out (HF.out j hj) (HV.out.ext HE.out) (HL.out.ext HE.out) (Nat.le_trans hw HE.out.size)).mono ?_
      rintro e w2 ⟨x, ev, rfl, he, hev, hx⟩
      have HE2 := Sd.mk he
      have HX := Sd.mk hx
      clear he hx f e0
      rcases hev with ⟨h1, rfl⟩ | ⟨h1, y, rfl⟩
      · obtain ⟨p, hp⟩ : ∃ p, gd L (l[j]).2 = some p := by
          cases h : gd L (l[j]).2 with
          | none => rw [h] at h1; cases h1
          | some p => exact ⟨p, rfl⟩
        have HT2 := Sd.mk (HT.out.snoc hj hp)
        have HXP := Sd.mk (HX.out p hp)
        have HO2 := Sd.mk (owns_ext HO.out HE2.out)
        have hown1 := own_lt HO.out
        have HR2 : Sd (ARow w2 (NK w.heap.size u8) (ps ++ [((l[j]).1, p)]) (xs ++ [x])) := ⟨(HR.out.keep fun k hk hl => ⟨HE2.out.block k hl, hk⟩).snoc (HXP.out.keep fun k hk hl => ⟨rfl, Nat.le_trans HE.out.size hk, fun e => by have := (hown1 k e).2; omega⟩)⟩
        have H1 := Sd.mk HXP.out.one
        have hs2 : w.heap.size ≤ w2.heap.size := (HE.out.trans HE2.out).size
        clear hp h1 HX hown1
        have HSH := HXP.out.shape
        clear HXP
        rcases HSH with rfl | ⟨d3, y3, rfl⟩
        · go_wp2_with (at_builtin; refine wpList_append_lies _ rfl _ _ 93 rfl w.heap.size 20 i0 .nilIface 1 16 Tryz.underlying93 hi hz0 hz1 hz2 rfl (by decide) u8 j xs rfl (World.ownsRow.alloc HO2.out _) ⟨w2.heap.size, 0, none⟩ 1 1 [.nilIface] rfl rfl (cell_one_at _ _ _) (fun u hu => by rw [List.mem_singleton.1 hu]; exact H1.out) (by decide) (by unfold maxLen; omega) (by omega) (by simp; omega) (w2.heap.size + 1) (by simp) ?_; intro g2 cap2 w4 hown hgrow hat hlt; have HO4 := Sd.mk hown; have HE4 := Sd.mk (((HE.out.trans HE2.out).alloc (.cells #[.nilIface] 20)).grown hgrow (Nat.le_refl _) (owns_base HO.out)); have HR4 := Sd.mk ((HR2.out.keep (w' := w2.alloc (.cells #[.nilIface] 20)) (N' := NK w.heap.size u8) fun k hk hl => ⟨((Ext.refl w2).alloc _).block k hl, hk⟩).grown (n := j + 1) (cap := cap2) hgrow hat (by simp)); clear hown hgrow hat hlt)
          go_roundg (l.length - (j + 1))
          case measure => omega
          case rel => exact ⟨j + 1, ps ++ [((l[j]).1, p)], _, by go_num, by omega, HE4, HO4, HR4, HT2⟩
        · go_wp2_with (at_builtin; refine wpList_append_lies _ rfl _ _ 93 rfl w.heap.size 20 i0 .nilIface 1 16 Tryz.underlying93 hi hz0 hz1 hz2 rfl (by decide) u8 j xs rfl (World.ownsRow.alloc HO2.out _) ⟨w2.heap.size, 0, none⟩ 1 1 [.iface d3 y3] rfl rfl (cell_one_at _ _ _) (fun u hu => by rw [List.mem_singleton.1 hu]; exact H1.out) (by decide) (by unfold maxLen; omega) (by omega) (by simp; omega) (w2.heap.size + 1) (by simp) ?_; intro g2 cap2 w4 hown hgrow hat hlt; have HO4 := Sd.mk hown; have HE4 := Sd.mk (((HE.out.trans HE2.out).alloc (.cells #[.iface d3 y3] 20)).grown hgrow (Nat.le_refl _) (owns_base HO.out)); have HR4 := Sd.mk ((HR2.out.keep (w' := w2.alloc (.cells #[.iface d3 y3] 20)) (N' := NK w.heap.size u8) fun k hk hl => ⟨((Ext.refl w2).alloc _).block k hl, hk⟩).grown (n := j + 1) (cap := cap2) hgrow hat (by simp)); clear hown hgrow hat hlt)
          go_roundg (l.length - (j + 1))
          case measure => omega
          case rel => exact ⟨j + 1, ps ++ [((l[j]).1, p)], _, by go_num, by omega, HE4, HO4, HR4, HT2⟩
      · have HN : Sd (gd L (.mk 8 r l) = none) := ⟨gd8_none (gdL_none hj (by cases h : gd L (l[j]).2 with | none => rfl | some p => rw [h] at h1; cases h1))⟩
        clear h1
        go_wp2_with fail
        refine bodyPost_ret (v := .tuple #[.iface 93 u8, .iface 107 y]) (by simp [results, Tryz.results21, go_sem]) rfl (vaR_none HN.out (HE.out.trans HE2.out))
    · go_wp2_with fail
      have hpl : ps.length = l.length := by have := HT.out.1; omega
      have hjl : j = l.length := by omega
      refine bodyPost_ret (v := .tuple #[.iface 93 u8, .nilIface]) (by simp [results, Tryz.results21, go_sem]) rfl (vaR_some (gd8_some (HT.out.all hj)) (any_list (by omega) (by rw [hpl, ← hjl]; exact HO.out) HR.out) HE.out)

end Go.Proofs.YtcfgjmdfpnfkjaaGreatDoor
set_option linter.unusedVariables false
set_option linter.unusedSimpArgs false
namespace Go.Proofs.YtcfgjmdfpnfkjaaGreatDoor
open Go.RowKit Pf
open Go.ChangeMaps (setBlock)

theorem set_same {w : World} {b : Nat} {o o' : Obj} (hb : w.heap[b]? = some o') : (setBlock w b o).heap[b]? = some o := by
  have h := (Array.getElem?_eq_some_iff.1 hb).1
  simp [setBlock, h]
theorem set_other {w : World} {b g : Nat} {o : Obj} (hne : g ≠ b) : (setBlock w b o).heap[g]? = w.heap[g]? := by
  simp [setBlock, Array.getElem?_setIfInBounds, Ne.symm hne]
theorem Ext.set {w w' : World} {b : Nat} (h : Ext w w') (hb : w.heap.size ≤ b) (o : Obj) : Ext w (setBlock w' b o) :=
  ⟨h.os, h.tape, h.output, by simp [setBlock]; exact h.size, fun k hk => (set_other (by omega)).trans (h.block k hk)⟩

/-- A map's entries, read as data's members. -/
def MEnts (w : World) (N : Nat → Prop) (l : List (ByteArray × PD)) (es : Array MapEntry) : Prop :=
  (∀ e ∈ es.toList, ∃ p ∈ l, e.key = .string p.1 ∧ Any w N e.val p.2) ∧ ∀ p ∈ l, ∃ e ∈ es.toList, e.key = .string p.1
theorem MEnts.keep {w w' : World} {N N' : Nat → Prop} {l : List (ByteArray × PD)} {es : Array MapEntry} (h : MEnts w N l es) (e : ∀ k, N k → k < w.heap.size → w'.heap[k]? = w.heap[k]? ∧ N' k) : MEnts w' N' l es :=
  ⟨fun x hx => by obtain ⟨p, hp, h1, h2⟩ := h.1 x hx; exact ⟨p, hp, h1, h2.keep e⟩, h.2⟩
theorem MEnts.step {w : World} {N : Nat → Prop} {l : List (ByteArray × PD)} {es es' : Array MapEntry} {k : ByteArray} {x : Value} {p : PD} (h : MEnts w N l es) (hr : Rising l) (hx : Any w N x p)
    (s1 : ∃ e ∈ es'.toList, e.key = .string k) (s2 : ∀ e ∈ es.toList, ∃ e' ∈ es'.toList, e'.key = e.key) (s3 : ∀ e' ∈ es'.toList, (e' ∈ es.toList ∧ e'.key ≠ .string k) ∨ (e'.key = .string k ∧ e'.val = x)) : MEnts w N (ins k p l) es' := by
  refine ⟨fun e he => ?_, fun q hq => ?_⟩
  · rcases s3 e he with ⟨h1, h2⟩ | ⟨h1, h2⟩
    · obtain ⟨q, hq, h3, h4⟩ := h.1 e h1
      exact ⟨q, (ins_mem hr q).2 (.inr ⟨fun e2 => h2 (by rw [h3, e2]), hq⟩), h3, h4⟩
    · exact ⟨(k, p), (ins_mem hr _).2 (.inl rfl), h1, by rw [h2]; exact hx⟩
  · rcases (ins_mem hr q).1 hq with rfl | ⟨-, h1⟩
    · exact s1
    · obtain ⟨e, he, h2⟩ := h.2 q h1
      obtain ⟨e', he', h3⟩ := s2 e he
      exact ⟨e', he', h3.trans h2⟩
theorem any_obj {w : World} {N : Nat → Prop} {l : List (ByteArray × PD)} {r : Nat} {es : Array MapEntry} {clock : Nat} (hl : l.length ≤ 1048576) (hr : Rising l) (hN : N r) (hb : w.heap[r]? = some (.map es clock)) (F : Ents es clock) (h : MEnts w N l es) :
    Any w N (.iface 85 (.map (some r))) (.mk 6 false 0 0 noS l) := by
  classical
  have hq : ∀ e ∈ es.toList, ∃ i, ∃ h : i < l.length, e.key = .string (l[i]).1 ∧ Any w N e.val (l[i]).2 := fun e he => by
    obtain ⟨p, hp, h1, h2⟩ := h.1 e he
    obtain ⟨i, hi, rfl⟩ := List.getElem_of_mem hp
    exact ⟨i, hi, h1, h2⟩
  refine .obj l r es clock (fun e => if he : e ∈ es.toList then (hq e he).choose else 0) hl hr hN hb F (fun e he => ?_) (fun e he hlt => ?_) fun i hi => h.2 _ (List.getElem_mem hi)
  · simp only [dif_pos he]
    obtain ⟨h1, h2, h3⟩ := (hq e he).choose_spec
    exact ⟨h1, h2⟩
  · simp only [dif_pos he]
    obtain ⟨h1, h2, h3⟩ := (hq e he).choose_spec
    exact h3

end Go.Proofs.YtcfgjmdfpnfkjaaGreatDoor
set_option linter.unusedVariables false
set_option linter.unusedSimpArgs false
namespace Go.Proofs.YtcfgjmdfpnfkjaaGreatDoor
open Go.RowKit Pf
open Go.MapKept
open Go.ChangeMaps (setBlock)

theorem VAt.head {w : World} {N : Nat → Prop} {v : GV} {q : Nat} (h : VAt w N v q) : ∃ r tv P, w.heap[q]? = some (.cells (vv r tv v.kind P) 81 (0, 0)) := by
  obtain ⟨k, r, l⟩ := v
  simp only [VAt] at h
  obtain ⟨A, c, P, -, h0, -⟩ := h
  exact ⟨r, _, P, h0⟩
theorem GV.Fit.kind1 {v : GV} (h : v.Fit) : 1 ≤ v.kind := by
  cases h with | mk k r l h1 h9 h5 hn h8 hk => exact h1

set_option maxRecDepth 100000 in
set_option maxHeartbeats 4000000 in
theorem va_obj (L : LayP) (r : ByteArray) (l : List (ByteArray × GV)) (ih : ∀ j (hj : j < l.length), VaC L (l[j]).2) (A : Option Addr) (c : Nat) (A0 : Option Addr) (P q : Nat) (w0 w : World) (N : Nat → Prop) (hl : l.length ≤ 1048576) (hA0 : GV.All w0 A0 0 l)
    (hf : ∀ i (h : i < l.length), GV.Fit (l[i]).2) (hq : w.heap[q]? = some (.cells (vv r (.slice A l.length c) 9 P) 81 (0, 0))) (hA : VAll w N A 0 l) (hL : Lay L w) (hw : 13 ≤ w.heap.size) :
    Calls Tryz.prog 21 #[.pointer (some ⟨q, 0, none⟩), .map none] w (VaR L (.mk 9 r l) w) := by
  have HA := Sd.mk hA
  have HA0 := Sd.mk hA0
  have IH := Sd.mk ih
  have HF := Sd.mk hf
  have HL := Sd.mk hL
  have f := box_cell hq
  have HQ := Sd.mk hq
  have hmm := @run_makeMap Tryz.prog
  clear hA hA0 ih hf hL hq
  have fA : ∀ i o, (w.alloc o).cell? ⟨q, i, none⟩ = _ := fun i o => box_cell (box_keep HQ.out o) i
  go_enter Tryz.func21, Tryz.ntmps21
  go_wp2_with fail
  clear f fA
  go_loopg [145] l.length (fun g v145 wr => ∃ (j : Nat) (ps : List (ByteArray × PD)), v145 = .int .i64 j ∧ g + j = l.length ∧ Sd (Ext w wr) ∧ Sd (∃ es clock, wr.heap[w.heap.size]? = some (.map es clock) ∧ Ents es clock ∧ MEnts wr (fun k => w.heap.size + 1 ≤ k) (insAll ps) es) ∧ Sd (GotTo L l j ps))
  case atStart => exact ⟨0, [], rfl, by omega, ⟨(Ext.refl _).alloc _⟩, ⟨#[], 0, box_alloc _ _, Ents.empty, by simp [MEnts], by simp [MEnts, insAll]⟩, ⟨GotTo.nil _ _⟩⟩
  case round =>
    obtain ⟨j, ps, rfl, hg, HE, HM, HT⟩ := hrel
    by_cases hj : j < l.length
    · obtain ⟨ad, qc, qv, P2, rfl, e0, e1, hv⟩ := HA.out.get j hj
      have HV := Sd.mk (hv.ext HE.out)
      obtain ⟨r2, tv2, P3, hh⟩ := hv.head
      have HH := Sd.mk (box_ext hh HE.out)
      rw [Nat.zero_add] at e0
      have e0 := HE.out.cell e0
      have HC := Sd.mk (box_ext e1 HE.out)
      have f := box_cell HC.out
      obtain ⟨ad0, cs0, -, hAt0, -⟩ := HA0.out.get j hj
      have HAT := Sd.mk hAt0
      clear e1 hv hAt0 hh
      go_wp2_with fail
      refine (isset_c _ _ _ _ qv wr HH.out (HF.out j hj).kind1).mono ?_
      rintro e w1 ⟨rfl, rfl⟩
      go_wp2_with fail
      refine (IH.out j hj w0 _ _ N qv HAT.out (HF.out j hj) HV.out (HL.out.ext HE.out) (Nat.le_trans hw HE.out.size)).mono ?_
      rintro e w2 ⟨x, ev, rfl, he, hev, hx⟩
      have HE2 := Sd.mk he
      have HX := Sd.mk hx
      have f := box_cell (box_ext HC.out he)
      clear he hx e0
      rcases hev with ⟨h1, rfl⟩ | ⟨h1, y, rfl⟩
      · obtain ⟨p, hp⟩ : ∃ p, gd L (l[j]).2 = some p := by
          cases h : gd L (l[j]).2 with
          | none => rw [h] at h1; cases h1
          | some p => exact ⟨p, rfl⟩
        have HT2 := Sd.mk (HT.out.snoc hj hp)
        have HXP := Sd.mk (HX.out p hp)
        obtain ⟨es, clock, hb, F, hM⟩ := HM.out
        have MB := Sd.mk (box_ext hb HE2.out)
        have HF2 := Sd.mk F
        have HME := Sd.mk hM
        have hsz := heap_lt hb
        clear hp h1 HX hb F hM HM
        go_wp2_with (refine wp_store _ rfl _ _ _ 85 rfl 9 20 (by rfl) (by rfl) w.heap.size HF2.out MB.out (l[j]).1 x rfl rfl rfl ?_; intro es2 clock2 F2 s1 s2 s3; have S := Sd.mk (And.intro F2 (And.intro s1 (And.intro s2 s3))); clear F2 s1 s2 s3)
        go_roundg (l.length - (j + 1))
        case measure => omega
        case rel =>
          have hms := HME.out.keep (w' := w2) (N' := fun k => w.heap.size + 1 ≤ k) fun k hk hlt => ⟨HE2.out.block k hlt, hk⟩
          have hwr := heap_lt HC.out
          have hx2 := HXP.out.keep (w' := w2) (N' := fun k => w.heap.size + 1 ≤ k) fun k hk hlt => ⟨rfl, by omega⟩
          have hst := hms.step (insAll_rising ps) hx2 S.out.2.1 S.out.2.2.1 S.out.2.2.2
          rw [show ins (l[j]).1 p (insAll ps) = insAll (ps ++ [((l[j]).1, p)]) from (insAll_snoc ps ((l[j]).1, p)).symm] at hst
          exact ⟨j + 1, ps ++ [((l[j]).1, p)], by go_num, by omega, ⟨(HE.out.trans HE2.out).set (Nat.le_refl _) _⟩, ⟨es2, clock2, set_same MB.out, S.out.1, hst.keep fun k hk hlt => ⟨set_other (by omega), hk⟩⟩, HT2⟩
      · have HN : Sd (gd L (.mk 9 r l) = none) := ⟨gd9_none (gdL_none hj (by cases h : gd L (l[j]).2 with | none => rfl | some p => rw [h] at h1; cases h1))⟩
        clear h1
        go_wp2_with fail
        refine bodyPost_ret (v := .tuple #[.iface 85 (.map (some w.heap.size)), .iface 107 y]) (by simp [results, Tryz.results21, go_sem]) rfl (vaR_none HN.out (HE.out.trans HE2.out))
    · go_wp2_with fail
      have hpl : ps.length = l.length := by have := HT.out.1; omega
      obtain ⟨es, clock, hb, F, hM⟩ := HM.out
      refine bodyPost_ret (v := .tuple #[.iface 85 (.map (some w.heap.size)), .nilIface]) (by simp [results, Tryz.results21, go_sem]) rfl (vaR_some (gd9_some (HT.out.all hj)) (any_obj (by have := insAll_len ps; omega) (insAll_rising ps) (Nat.le_refl _) hb F (hM.keep fun k hk hlt => ⟨rfl, by omega⟩)) HE.out)

end Go.Proofs.YtcfgjmdfpnfkjaaGreatDoor
set_option linter.unusedVariables false
set_option linter.unusedSimpArgs false
namespace Go.Proofs.YtcfgjmdfpnfkjaaGreatDoor
open Go.RowKit Pf

/-- Value.Value at every value of the parser's tree. -/
theorem va_c (HS : Sd Shelf) (L : LayP) (v : GV) : VaC L v := by
  induction v using GV.ind with | h k r l ih
  intro w0 w cs N q hv hf hq hL hw
  simp only [GV.At] at hv
  obtain ⟨A0, c0, rfl, hl, hA0, hr⟩ := hv
  simp only [VAt] at hq
  obtain ⟨A, c, P, -, hq, hA⟩ := hq
  cases hf with | mk _ _ _ h1 h9 h5 hn h8 hk =>
  have hc : (k = 1 ∨ k = 2 ∨ (k = 3 ∨ k = 4 ∨ k = 7) ∨ k = 5 ∨ k = 6) ∨ k = 8 ∨ k = 9 := by omega
  rcases hc with hc | rfl | rfl
  · obtain rfl := h8 (by omega)
    rcases hc with rfl | rfl | hc | rfl | rfl
    · exact va_int HS L r A c P q w hq hr hL hw
    · exact va_float HS L r A c P q w hq (hn (by omega)) hr hL hw
    · exact va_text L k r A c P q w hq hc
    · exact va_bool L r A c P q w hq (h5 rfl)
    · exact va_null L r A c P q w hq
  · exact va_list L r l ih A c A0 P q w0 w N hl hA0 hk hq hA hL hw
  · exact va_obj L r l ih A c A0 P q w0 w N hl hA0 hk hq hA hL hw

end Go.Proofs.YtcfgjmdfpnfkjaaGreatDoor
