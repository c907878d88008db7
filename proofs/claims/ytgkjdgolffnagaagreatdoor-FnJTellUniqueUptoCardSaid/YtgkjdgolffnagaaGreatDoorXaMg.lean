/- Parts of the proof of the statement that this folder hands in: lemmas and contracts (Xa, Xf, Xg, Xh, Xi). -/
import Derived.Test.YtgkjdgolffnagaaGreatDoorX
import Derived.Test.YtgkjdgolffnagaaGreatDoorXe
import Derived.Test.YtgkjdgolffnagaaGreatDoorZi1
import Derived.Test.YtgkjdgolffnagaaGreatDoorZi2
import Derived.Test.YtgkjdgolffnagaaGreatDoorKo
set_option linter.unusedSimpArgs false
set_option linter.unusedVariables false
namespace Go.Proofs.YtgkjdgolffnagaaGreatDoor
open Go.RowKit

def Fill0 (u : Bool) : Fill := fun bl rq mp mt mx mr ms uq L => bl = .pointer none ∧ ∃ r a b c d e, rq = .slice (some ⟨r, 0, none⟩) 0 0 ∧ mp = some a ∧ mt = some b ∧ mx = some c ∧ mr = some d ∧ ms = some e ∧ uq = u ∧
  L = [(a, .map #[] 0), (b, .map #[] 0), (c, .map #[] 0), (d, .map #[] 0), (e, .map #[] 0)]
def Fill2 : Fill := fun bl rq mp mt mx mr ms uq L => ∃ b, bl = .pointer (some ⟨b, 0, none⟩) ∧ rq = .slice none 0 0 ∧ mp = none ∧ mt = none ∧ mx = none ∧ mr = none ∧ ms = none ∧ uq = false ∧ L = [(b, .cells #[.bool false] 4 (0, 0))]

theorem set0 (u : Bool) (s : Value) (p : Nat) (w : World) (hp : w.heap[p]? = some (.cells schema0 114 (0, 0))) :
    Calls Tryz.prog 48 #[s, .pointer (some ⟨p, 0, none⟩), .agg (node 0 u), .int .i64 1, .int .i64 2020] w (SetPost (Fill0 u) p w) := by
  refine (set_c u s p w hp).mono ?_
  rintro e w' ⟨rfl, rq, mp, mt, mx, mr, md, h1, h2, h3, h4, h5, hs, hg⟩
  refine ⟨rfl, _, _, _, _, _, _, _, _, _, ⟨rfl, rq, mp, mt, mx, mr, md, rfl, rfl, rfl, rfl, rfl, rfl, rfl, rfl⟩, hs, ?_, hg⟩
  have ne : ∀ {b : Nat}, w'.heap[b]? = some (.map #[] 0) → b ≠ p := fun hb e => by rw [e, hs] at hb; cases hb
  intro x hx
  simp only [List.mem_cons, List.not_mem_nil, or_false] at hx
  rcases hx with rfl | rfl | rfl | rfl | rfl
  · exact ⟨ne h1, h1⟩
  · exact ⟨ne h2, h2⟩
  · exact ⟨ne h3, h3⟩
  · exact ⟨ne h4, h4⟩
  · exact ⟨ne h5, h5⟩

set_option maxHeartbeats 8000000 in
set_option maxRecDepth 100000 in
theorem set2 (s : Value) (p : Nat) (w : World) (hp : w.heap[p]? = some (.cells schema0 114 (0, 0))) :
    Calls Tryz.prog 48 #[s, .pointer (some ⟨p, 0, none⟩), .agg (node 2 false), .int .i64 1, .int .i64 2020] w (SetPost Fill2 p w) := by
  have H0 := Sd.mk (At.of (nd := node 2 false) hp)
  clear hp
  have f1 := box_cell H0.out.s
  have f2 := box_frozen H0.out.s
  have f3 := box_cell H0.out.n 0
  have hne : w.heap.size ≠ p := by have := H0.out.lt; omega
  have f4 := fun i v => set_cell_other (w.alloc (.cells (node 2 false) 44)) hne i 0 v
  have H1 := Sd.mk (H0.out.put (cs' := schema false 0 2020 ⟨#[]⟩ (.pointer none) (.slice none 0 0) none none none none none false) 3 (.int .i64 2020) rfl)
  have f5 := box_cell (box_keep H1.out.s (.cells #[.bool false] 4)) 5
  have f6 := box_frozen (box_keep H1.out.s (.cells #[.bool false] 4)) 5
  unfold schema0 schema at f1
  unfold schema at f5
  unfold node at f1 f2 f3 f4 f5 f6 ⊢
  go_enter Tryz.func48, Tryz.ntmps48
  go_wp2_with fail
  go_end0
  have H2 := (H1.out.alloc (.cells #[.bool false] 4)).put (cs' := schema false 0 2020 ⟨#[]⟩ (.pointer (some ⟨w.heap.size + 1, 0, none⟩)) (.slice none 0 0) none none none none none false) 5 (.pointer (some ⟨w.heap.size + 1, 0, none⟩)) rfl
  have hlt := H0.out.lt
  refine ⟨rfl, _, _, _, _, _, _, _, _, _, ⟨w.heap.size + 1, rfl, rfl, rfl, rfl, rfl, rfl, rfl, rfl, rfl⟩, H2.s, ?_, H2.g⟩
  intro x hx
  simp only [List.mem_cons, List.not_mem_nil, or_false] at hx
  subst hx
  refine ⟨show w.heap.size + 1 ≠ p by omega, ?_⟩
  rw [box_other (h := rfl) _ (show w.heap.size + 1 ≠ p by omega)]
  have hsz : ((w.alloc (.cells (node 2 false) 44)).setCell ⟨p, 3, none⟩ (.int .i64 2020)).heap.size = w.heap.size + 1 := by simp [World.setCell]
  have := box_alloc ((w.alloc (.cells (node 2 false) 44)).setCell ⟨p, 3, none⟩ (.int .i64 2020)) (.cells #[.bool false] 4)
  rw [hsz] at this
  exact this

end Go.Proofs.YtgkjdgolffnagaaGreatDoor
set_option linter.unusedVariables false
namespace Go.Proofs.YtgkjdgolffnagaaGreatDoor
open Go.RowKit

/-- The two cells of the error told by the validator. -/
def TellU (v : JV) (kx : Value) (w : World) : Prop := ∃ k j i : Nat, ∃ (hi : i < v.items.length) (hj : j < v.items.length), kx = .iface 212 (.pointer (some ⟨k, 0, none⟩)) ∧ v.kind = 4 ∧ j < i ∧ JEq v.items[i] v.items[j] ∧ w.heap[k]? = some (.cells #[.int .i64 j, .int .i64 i] 215 (0, 0))
def TellF (kx : Value) (w : World) : Prop := ∃ k, kx = .iface 264 (.pointer (some ⟨k, 0, none⟩))
theorem TellU.ext {v : JV} : ∀ kx w w', Ext w w' → TellU v kx w → TellU v kx w' := fun kx w w' e ⟨k, j, i, hi, hj, h1, h2, h3, h4, h5⟩ => ⟨k, j, i, hi, hj, h1, h2, h3, h4, box_ext h5 e⟩
theorem TellF.ext : ∀ kx w w', Ext w w' → TellF kx w → TellF kx w' := fun kx w w' e h => h

/-- What the validator says where the schema is 'uniqueItems'. -/
theorem valid98 {x : Value} {v : JV} {w w1 : World} {p q s : Nat} {ad : Addr} {c n : Nat} {loc : ByteArray} {rq mp mt mx mr ms : Nat} {N : Nat → Prop} (h : Any w N x v) (hs : Sch w p true loc rq mp mt mx mr ms)
    (hok : v.Ok) (hcn : v.counts = true) (h20 : v.kind = 4 → v.items.length ≤ 20)
    (hq : w1.heap[q]? = some (.cells (vd x ad c p s n (.slice none 0 0)) 179 (0, 0))) (hsc : w1.heap[s]? = some (.cells #[.pointer (some ⟨p, 0, none⟩), .string ⟨#[]⟩, .int .i64 0, .pointer none] 175 (0, 0))) (hlt : w.heap.size ≤ q) (he : Ext w w1) :
    Calls Tryz.prog 98 #[.pointer (some ⟨q, 0, none⟩)] w1 fun e w' => Ext w w' ∧ Out98 loc (¬ TwinV v) (TellU v) w e w' := by
  have h1 := h.ext he
  have hs1 := hs.ext he
  by_cases h4 : v.kind = 4
  · cases h1 with
    | list k b nn t ns is A cc xs hk hl hc ha =>
      cases hok with | mk _ _ _ _ _ _ _ _ _ ao =>
      refine (valid_list ad c p s n q w1 loc rq mp mt mx mr ms k b nn t ns is hk A cc xs (.list _ _ _ _ _ _ A cc xs hk hl hc ha) ⟨hc, ha⟩ ao (counts_mk hcn).2 (h20 h4) hq hsc hs1 ⟨Nat.lt_of_lt_of_le (box_lt hs.s) hlt, Nat.lt_of_lt_of_le (box_lt hs.p) hlt, Nat.lt_of_lt_of_le (box_lt hs.t) hlt, Nat.lt_of_lt_of_le (box_lt hs.x) hlt, Nat.lt_of_lt_of_le (box_lt hs.r) hlt, Nat.lt_of_lt_of_le (box_lt hs.d) hlt⟩).mono ?_
      rintro e w' (⟨hn, hy, e1⟩ | ⟨k, j, i, hi, hj, h5, h6, h7, h8, g, y, h9, h10, h11, h12⟩)
      · exact ⟨he.trans e1, .inl ⟨hn, hy, he.trans e1⟩⟩
      · have hE := Ext.over he h12 hlt
        exact ⟨hE, .inr ⟨212, k, g, y, by decide, ⟨k, j, i, hi, hj, rfl, h5, h6, h7, h8⟩, h9, h10, hE⟩⟩
    | nul => exact absurd h4 ‹_›
    | bool => simp [JV.kind] at h4; omega
    | text => simp [JV.kind] at h4; omega
    | obj => simp [JV.kind] at h4; omega
  · have fin : ∀ e w', ((∃ y, e = .returned (.tuple #[y, .nilIface])) ∧ Ext w1 w') → Ext w w' ∧ Out98 loc (¬ TwinV v) (TellU v) w e w' := fun e w' ⟨hy, e1⟩ => ⟨he.trans e1, .inl ⟨fun ht => h4 ht.1, hy, he.trans e1⟩⟩
    by_cases h5 : v.kind = 5
    · cases h1 with
      | obj k b nn t ns is r es clock qq hk hN hb F ha hb2 hc =>
        exact (valid_obj ad c p s n q w1 loc rq mp mt mx mr ms r (.obj k b nn t ns is r es clock qq hk hN hb F ha hb2 hc) es clock F hb hq hsc hs1).mono fin
      | nul => exact absurd h5 ‹_›
      | bool => simp [JV.kind] at h5; omega
      | text => simp [JV.kind] at h5; omega
      | list => simp [JV.kind] at h5; omega
    · exact (valid_plain ad c p s n q w1 loc rq mp mt mx mr ms h1 h4 h5 hq hsc hs1).mono fin

set_option maxHeartbeats 2000000 in
set_option maxRecDepth 100000 in
theorem false98 {w w1 : World} {p q s b : Nat} {ad : Addr} {c n : Nat} {loc : ByteArray} (hs : w.heap[p]? = some (.cells (schema false 0 2020 loc (.pointer (some ⟨b, 0, none⟩)) (.slice none 0 0) none none none none none false) 114 (0, 0))) (hb : w.heap[b]? = some (.cells #[.bool false] 4 (0, 0)))
    (hq : w1.heap[q]? = some (.cells (vd .nilIface ad c p s n (.slice none 0 0)) 179 (0, 0))) (hlt : w.heap.size ≤ q) (he : Ext w w1) :
    Calls Tryz.prog 98 #[.pointer (some ⟨q, 0, none⟩)] w1 fun e w' => Ext w w' ∧ Out98 loc False TellF w e w' := by
  have HQ := Sd.mk hq
  have HS := Sd.mk (box_ext hs he)
  have HE := Sd.mk he
  have f := box_cell hq
  have g5 := box_cell HS.out 5
  have g0 := box_cell (box_ext hb he) 0
  clear hq hs hb he hlt
  unfold vd at f
  unfold schema at g5
  go_enter Tryz.func98, Tryz.ntmps98
  go_wp2_with (go_at_call 135; refine (error_c _ _ _ _ _ _ _ _ _ (box_keep HQ.out _) _ _ _ _ _ _ _ _ _ _ _ _ (box_keep HS.out _) _ _).mono ?_; rintro e w2 ⟨gg, rfl, hg, hE, e2⟩; have HG := Sd.mk hE; have HE2 := Sd.mk (((HE.out).alloc _).trans e2); clear hg hE e2)
  go_ret2
  exact ⟨HE2.out, .inr ⟨264, _, _, _, by decide, ⟨_, rfl⟩, rfl, HG.out, HE2.out⟩⟩

end Go.Proofs.YtgkjdgolffnagaaGreatDoor
set_option linter.unusedVariables false
namespace Go.Proofs.YtgkjdgolffnagaaGreatDoor
open Go.RowKit

theorem v27 {x : Value} {w : World} {p : Nat} {loc : ByteArray} {A : Prop} {B : Value → World → Prop} (H52 : Calls Tryz.prog 52 #[.pointer (some ⟨p, 0, none⟩), x] w (Out52 loc A B w)) :
    Calls Tryz.prog 27 #[.pointer (some ⟨p, 0, none⟩), x] w (Out52 loc A B w) := by
  go_enter Tryz.func27, Tryz.ntmps27
  go_wp2_with (go_at_call 52; refine H52.mono ?_; rintro e w' ⟨he, h⟩; obtain ⟨y, rfl⟩ : ∃ y, e = .returned y := (by rcases h with ⟨-, h⟩ | ⟨G, h, -⟩ <;> exact ⟨_, h⟩); have HH := Sd.mk h; have HE := Sd.mk he; clear he h)
  go_ret
  exact ⟨HE.out, HH.out⟩

theorem v27_true {x : Value} {v : JV} {w : World} {p : Nat} {rq mp mt mx mr ms : Nat} {N : Nat → Prop} (h : Any w N x v) (hs : Sch w p true one rq mp mt mx mr ms)
    (hok : v.Ok) (hcn : v.counts = true) (h20 : v.kind = 4 → v.items.length ≤ 20) : Calls Tryz.prog 27 #[.pointer (some ⟨p, 0, none⟩), x] w (Out52 one (¬ TwinV v) (TellU v) w) := by
  refine v27 ?_
  rcases h.shape with rfl | ⟨d, y, rfl⟩
  · exact validate_nil w one _ _ p _ _ _ _ _ true h hs.s _ _ TellU.ext (fun q ad c s n w1 hq hsc hlt he => valid98 h hs hok hcn h20 hq hsc hlt he)
  · exact validate_iface d y w one _ _ p _ _ _ _ _ true h hs.s _ _ TellU.ext (fun q ad c s n w1 hq hsc hlt he => valid98 h hs hok hcn h20 hq hsc hlt he)
theorem v27_false {w : World} {p b : Nat} (hs : w.heap[p]? = some (.cells (schema false 0 2020 one (.pointer (some ⟨b, 0, none⟩)) (.slice none 0 0) none none none none none false) 114 (0, 0))) (hb : w.heap[b]? = some (.cells #[.bool false] 4 (0, 0))) :
    Calls Tryz.prog 27 #[.pointer (some ⟨p, 0, none⟩), .nilIface] w (Out52 one False TellF w) := by
  refine v27 ?_
  exact validate_nil w one _ _ p _ _ _ _ _ false (N := fun _ => True) (v := .mk 0 false 0 ⟨#[]⟩ [] []) (.nul _ _ _ _ _ _ (by decide) (by decide) (by decide) (by decide) (by decide)) hs _ _ TellF.ext (fun q ad c s n w1 hq hsc hlt he => false98 hs hb hq hlt he)

def ze : Array Value := #[.string ⟨#[]⟩, .string ⟨#[]⟩, .slice none 0 0, .slice none 0 0, .string ⟨#[]⟩, .slice none 0 0, .slice none 0 0, .slice none 0 0]
/-- What the draft's errors are. -/
def DraftRes (A : Prop) (Q : Array Value → Nat → World → Prop) (w : World) (e : Ending) (w' : World) : Prop :=
  Ext w w' ∧ ((A ∧ e = .returned (.tuple #[.agg ze, .bool false])) ∨ ∃ P A' G ck kd P2 lp cp A2 ca N2 ln cn, e = .returned (.tuple #[.agg (je sSchema (some ⟨P, 0, none⟩) 0 0 A' 0 none 0 0 (some ⟨G, 0, none⟩) 1 ck), .bool true]) ∧
    Q (je kd P2 lp cp A2 ca N2 ln cn none 0 0) w.heap.size w' ∧ w.heap.size ≤ G ∧ ∀ i, i < 8 → w'.cell? ⟨G, i, none⟩ = (je kd P2 lp cp A2 ca N2 ln cn none 0 0)[i]?)

theorem as71y (v w) : (Instr.typeAssert (.iface 71 v) 74 71 true).run Tryz.prog w = .ok (.tuple #[v, .bool true]) w := as_yes Tryz.underlying71 (by simp) v w
theorem as71n (w) : (Instr.typeAssert .nilIface 74 71 true).run Tryz.prog w = .ok (.tuple #[.pointer none, .bool false]) w := by
  obtain ⟨i, hi, hz⟩ := zero_of (show (Tryz.prog.info? 71).map (·.zero) = some (some (.pointer none)) by kernel_rfl)
  exact as_nil Tryz.underlying71 (by simp) hi hz w

set_option maxHeartbeats 2000000 in
set_option maxRecDepth 100000 in
theorem draft_c (k0 : Int) (u : Bool) (F : Fill) (v : JV) (k : Int) (b : Bool) (n : Int) (t : ByteArray) (A0 : Option Addr) (la c : Nat) (B0 : Option Addr) (lb d : Nat) (A : Prop) (B : Value → World → Prop) (Q : Array Value → Nat → World → Prop) (nb : Nat) (w : World)
    (hb : w.heap[nb]? = some (.cells (node k0 u) 44 (0, 0)))
    (hset : ∀ s p w, w.heap[p]? = some (.cells schema0 114 (0, 0)) → Calls Tryz.prog 48 #[s, .pointer (some ⟨p, 0, none⟩), .agg (node k0 u), .int .i64 1, .int .i64 2020] w (SetPost F p w))
    (hof : ∀ w', Ext w w' → Calls Tryz.prog 28 #[.agg (jv k b n t A0 la c B0 lb d)] w' (Given w' v))
    (hval : ∀ p x N w1 w2, Made F p w1 → Ext w1 w2 → Any w2 N x v → Calls Tryz.prog 27 #[.pointer (some ⟨p, 0, none⟩), x] w2 (Out52 one A B w2))
    (hB : ∀ kx w w', Ext w w' → B kx w → B kx w') (hQ : ∀ cs b b' w w', b' ≤ b → Q cs b w → (∀ p n v, b ≤ p → w.cell? ⟨p, n, none⟩ = some v → w'.cell? ⟨p, n, none⟩ = some v) → Q cs b' w')
    (hkid : ∀ kx g w1, B kx w1 → ErrAt w1 one kx g → Calls Tryz.prog 29 #[.pointer (some ⟨g, 0, none⟩)] w1 fun e w'' => (∃ kd P lp cp A' ca N ln cn, e = .returned (.agg (je kd P lp cp A' ca N ln cn none 0 0)) ∧ Q (je kd P lp cp A' ca N ln cn none 0 0) w1.heap.size w'') ∧ Ext w1 w'') :
    Calls Tryz.prog 18 #[.int .i64 2020, .slice (some ⟨nb, 0, none⟩) 1 1, .agg (jv k b n t A0 la c B0 lb d)] w (DraftRes A Q w) := by
  have HB := Sd.mk hb
  have HSET := Sd.mk hset
  have HOF := Sd.mk hof
  have HVAL := Sd.mk hval
  have HKID := Sd.mk hkid
  have HBX := Sd.mk hB
  have HQX := Sd.mk hQ
  clear hb hset hof hval hkid hB hQ
  have ay := as71y
  have an := as71n
  go_enter Tryz.func18, Tryz.ntmps18
  go_wp2_with (first
    | (go_at_call 26; refine (compiled_c k0 u F HSET.out nb _ (box_keep (box_keep HB.out _) _)).mono ?_; rintro e w1 ⟨p, rfl, hm, he⟩; have HM := Sd.mk hm; have H5 := Sd.mk (box_ext (box_keep (box_alloc w _) _) he); have H6 := Sd.mk (box_ext (box_alloc2 w _ _) he); have HE := Sd.mk ((((Ext.refl w).alloc _).alloc _).trans he); clear hm he)
    | (refine wpList_load_row rfl 25 _ rfl w.heap.size rfl 25 (jv k b n t A0 la c B0 lb d) (0, 0) _ H5.out Tryz.underlying25 rfl s25 ?_)
    | (go_at_call 28; refine (HOF.out _ HE.out).mono ?_; rintro e w2 ⟨⟨x, rfl, hx⟩, he⟩; have HX := Sd.mk hx; have HE2 := Sd.mk he; clear hx he)
    | fail)
  go_at_call 27
  refine (HVAL.out p x _ _ _ HM.out HE2.out HX.out).mono ?_
  rintro e w3 ⟨he, (⟨ha, rfl⟩ | ⟨G, rfl, ht⟩)⟩
  · have HE3 := Sd.mk (HE.out.trans (HE2.out.trans he))
    have H6 := Sd.mk (box_ext (box_ext H6.out HE2.out) he)
    have HA := Sd.mk ha
    clear he ha
    go_wp2_with (first
      | (refine wpList_store_row rfl 49 _ _ rfl _ ze ze rfl rfl 49 H6.out rfl s49' (by simp [Value.oneCell', ze]) ?_; intro wn hn1 hn2; have HF := Sd.mk hn1; have HX : Sd (Ext w wn) := ⟨Ext.over HE3.out hn2 (Nat.le_succ _)⟩; clear hn1 hn2)
      | fail)
    (try simp only [Exit.inBlock, Exit.then])
    refine bodyPost_ret (v := .tuple #[.agg ze, .bool false]) ?_ rfl ⟨HX.out, .inl ⟨HA.out, rfl⟩⟩
    simp [results, Tryz.results18, asAddr, run_loadVar_row _ _ 49 49 _ _ _ HF.out Tryz.underlying49 rfl s49', Result.andThen]
  · have HE3 := Sd.mk (HE.out.trans (HE2.out.trans he))
    have H6 := Sd.mk (box_ext (box_ext H6.out HE2.out) he)
    have HL6 : Sd (w.heap.size + 1 < w3.heap.size) := ⟨by simpa using box_lt H6.out⟩
    obtain ⟨K, h, D, kk, g, h1, h2, h3, h4⟩ := ht
    have T1 := Sd.mk h1; have T2 := Sd.mk h2; have T3 := Sd.mk h3; have T4 := Sd.mk h4
    clear he h1 h2 h3 h4
    go_wp2_with (first
      | (go_at_call 29; refine (errorOf_top Q HQX.out G K h g none 0 1 _ T1.out T2.out (fun w' e => HKID.out _ _ _ (HBX.out _ _ _ e T4.out) (T3.out.ext e))).mono ?_; rintro e w4 ⟨⟨P, A', G2, ck, kd, P2, lp, cp, A2, ca, N2, ln, cn, rfl, hq, hG, hc⟩, he⟩; have HQ := Sd.mk hq; have HG := Sd.mk hG; have HC := Sd.mk hc; have H6 := Sd.mk (box_ext H6.out he); have HE4 := Sd.mk (HE3.out.trans he); clear hq hG hc he)
      | (refine wpList_store_row rfl 49 _ _ rfl _ (je sSchema (some ⟨P, 0, none⟩) 0 0 A' 0 none 0 0 (some ⟨G2, 0, none⟩) 1 ck) ze rfl rfl 49 H6.out rfl s49' (by simp [Value.oneCell']) ?_; intro wn hn1 hn2; have HF := Sd.mk hn1; have HY := Sd.mk hn2; have HX : Sd (Ext w wn) := ⟨Ext.over HE4.out hn2 (Nat.le_succ _)⟩; clear hn1 hn2)
      | fail)
    (try simp only [Exit.inBlock, Exit.then])
    have hs3 : w.heap.size + 2 ≤ w3.heap.size := HL6.out
    have hk : ∀ p n v, w3.heap.size ≤ p → w4.cell? ⟨p, n, none⟩ = some v → wn.cell? ⟨p, n, none⟩ = some v := fun p n v hp h => (HY.out.cell_far ⟨p, n, none⟩ (World.block_lt_of_cell? _ _ h) (by simp; omega)).trans h
    refine bodyPost_ret (v := .tuple #[.agg (je sSchema (some ⟨P, 0, none⟩) 0 0 A' 0 none 0 0 (some ⟨G2, 0, none⟩) 1 ck), .bool true]) ?_ rfl ⟨HX.out, .inr ⟨P, A', G2, ck, kd, P2, lp, cp, A2, ca, N2, ln, cn, rfl, HQX.out _ _ _ _ _ (by omega) HQ.out hk, by have := HG.out; omega, fun i hi => ?_⟩⟩
    · simp [results, Tryz.results18, asAddr, run_loadVar_row _ _ 49 49 _ _ _ HF.out Tryz.underlying49 rfl s49', Result.andThen]
    · have hc := HC.out i hi
      obtain ⟨u, hu⟩ : ∃ u, (je kd P2 lp cp A2 ca N2 ln cn none 0 0)[i]? = some u := ⟨_, Array.getElem?_eq_getElem (by simpa using hi)⟩
      rw [hu] at hc ⊢
      exact hk _ _ _ HG.out hc

end Go.Proofs.YtgkjdgolffnagaaGreatDoor
set_option linter.unusedVariables false
namespace Go.Proofs.YtgkjdgolffnagaaGreatDoor
open Go.RowKit

set_option maxHeartbeats 2000000 in
set_option maxRecDepth 100000 in
theorem jerr_c (k : Int) (b : Bool) (n : Int) (t : ByteArray) (A0 : Option Addr) (la c : Nat) (B0 : Option Addr) (lb d : Nat) (A : Prop) (Q : Array Value → Nat → World → Prop) (nb : Nat) (w : World)
    (hQ : ∀ cs b b' w w', b' ≤ b → Q cs b w → (∀ p n v, b ≤ p → w.cell? ⟨p, n, none⟩ = some v → w'.cell? ⟨p, n, none⟩ = some v) → Q cs b' w')
    (h18 : ∀ w', Ext w w' → Calls Tryz.prog 18 #[.int .i64 2020, .slice (some ⟨nb, 0, none⟩) 1 1, .agg (jv k b n t A0 la c B0 lb d)] w' (DraftRes A Q w')) :
    Calls Tryz.prog 13 #[.slice (some ⟨nb, 0, none⟩) 1 1, .agg (jv k b n t A0 la c B0 lb d)] w (DraftRes A Q w) := by
  have H18 := Sd.mk h18
  have HQX := Sd.mk hQ
  clear h18 hQ
  go_enter Tryz.func13, Tryz.ntmps13
  go_wp2_with (first
    | (refine wpList_load_row rfl 25 _ rfl w.heap.size rfl 25 (jv k b n t A0 la c B0 lb d) (0, 0) _ (box_keep (box_alloc w _) _) Tryz.underlying25 rfl s25 ?_)
    | fail)
  go_at_call 18
  refine (H18.out _ (((Ext.refl w).alloc _).alloc _)).mono ?_
  rintro e w3 ⟨he, (⟨ha, rfl⟩ | ⟨P, A', G2, ck, kd, P2, lp, cp, A2, ca, N2, ln, cn, rfl, hq, hG, hc⟩)⟩
  · have HE3 := Sd.mk ((((Ext.refl w).alloc _).alloc _).trans he)
    have H6 := Sd.mk (box_ext (box_alloc2 w _ _) he)
    have HA := Sd.mk ha
    clear he ha
    go_wp2_with (first
      | (refine wpList_store_row rfl 49 _ _ rfl _ ze ze rfl rfl 49 H6.out rfl s49' (by simp [Value.oneCell', ze]) ?_; intro wn hn1 hn2; have HF := Sd.mk hn1; have HX : Sd (Ext w wn) := ⟨Ext.over HE3.out hn2 (Nat.le_succ _)⟩; clear hn1 hn2)
      | fail)
    (try simp only [Exit.inBlock, Exit.then])
    refine bodyPost_ret (v := .tuple #[.agg ze, .bool false]) ?_ rfl ⟨HX.out, .inl ⟨HA.out, rfl⟩⟩
    simp [results, Tryz.results13, asAddr, run_loadVar_row _ _ 49 49 _ _ _ HF.out Tryz.underlying49 rfl s49', Result.andThen]
  · have HE3 := Sd.mk ((((Ext.refl w).alloc _).alloc _).trans he)
    have H6 := Sd.mk (box_ext (box_alloc2 w _ _) he)
    have HQ := Sd.mk hq; have HC := Sd.mk hc
    have HG : Sd (w.heap.size + 2 ≤ G2) := ⟨by simpa using hG⟩
    clear he hq hG hc
    go_wp2_with (first
      | (refine wpList_store_row rfl 49 _ _ rfl _ (je sSchema (some ⟨P, 0, none⟩) 0 0 A' 0 none 0 0 (some ⟨G2, 0, none⟩) 1 ck) ze rfl rfl 49 H6.out rfl s49' (by simp [Value.oneCell']) ?_; intro wn hn1 hn2; have HF := Sd.mk hn1; have HY := Sd.mk hn2; have HX : Sd (Ext w wn) := ⟨Ext.over HE3.out hn2 (Nat.le_succ _)⟩; clear hn1 hn2)
      | fail)
    (try simp only [Exit.inBlock, Exit.then])
    have hk : ∀ p n v, w.heap.size + 2 ≤ p → w3.cell? ⟨p, n, none⟩ = some v → wn.cell? ⟨p, n, none⟩ = some v := fun p n v hp h => (HY.out.cell_far ⟨p, n, none⟩ (World.block_lt_of_cell? _ _ h) (by simp; omega)).trans h
    refine bodyPost_ret (v := .tuple #[.agg (je sSchema (some ⟨P, 0, none⟩) 0 0 A' 0 none 0 0 (some ⟨G2, 0, none⟩) 1 ck), .bool true]) ?_ rfl ⟨HX.out, .inr ⟨P, A', G2, ck, kd, P2, lp, cp, A2, ca, N2, ln, cn, rfl, HQX.out _ _ _ _ _ (by simp; omega) HQ.out (fun p n v hp h => hk p n v (by simpa using hp) h), by have := HG.out; omega, fun i hi => ?_⟩⟩
    · simp [results, Tryz.results13, asAddr, run_loadVar_row _ _ 49 49 _ _ _ HF.out Tryz.underlying49 rfl s49', Result.andThen]
    · have hc := HC.out i hi
      obtain ⟨u, hu⟩ : ∃ u, (je kd P2 lp cp A2 ca N2 ln cn none 0 0)[i]? = some u := ⟨_, Array.getElem?_eq_getElem (by simpa using hi)⟩
      rw [hu] at hc ⊢
      exact hk _ _ _ HG.out hc

/-- The errors at 'uniqueItems'. -/
def QU (v : JV) (cs : Array Value) (b : Nat) (w : World) : Prop := ∃ j i : Nat, ∃ (hi : i < v.items.length) (hj : j < v.items.length), v.kind = 4 ∧ j < i ∧ JEq v.items[i] v.items[j] ∧ EofU j i cs b w
theorem QU.keep {v : JV} : ∀ cs b b' w w', b' ≤ b → QU v cs b w → (∀ p n v, b ≤ p → w.cell? ⟨p, n, none⟩ = some v → w'.cell? ⟨p, n, none⟩ = some v) → QU v cs b' w' :=
  fun cs b b' w w' hb ⟨j, i, hi, hj, h1, h2, h3, h4⟩ k => ⟨j, i, hi, hj, h1, h2, h3, EofU.keep _ _ _ _ _ hb h4 k⟩

theorem errs_uniq (v : JV) (k : Int) (b : Bool) (n : Int) (t : ByteArray) (A0 : Option Addr) (la c : Nat) (B0 : Option Addr) (lb d : Nat) (nb : Nat) (w : World) (h : v.At w [.int .i64 k, .bool b, .int .i64 n, .string t, .slice A0 la c, .slice B0 lb d])
    (hok : v.Ok) (hcn : v.counts = true) (h20 : v.kind = 4 → v.items.length ≤ 20) (hb : w.heap[nb]? = some (.cells (node 0 true) 44 (0, 0))) :
    Calls Tryz.prog 13 #[.slice (some ⟨nb, 0, none⟩) 1 1, .agg (jv k b n t A0 la c B0 lb d)] w (DraftRes (¬ TwinV v) (QU v) w) := by
  refine jerr_c k b n t A0 la c B0 lb d _ _ nb w QU.keep fun w1 e1 => ?_
  refine draft_c 0 true (Fill0 true) v k b n t A0 la c B0 lb d _ (TellU v) _ nb w1 (box_ext hb e1) (set0 true) (fun w2 e2 => of_c v hok hcn _ _ ((h.ext e1).ext e2)) ?_ TellU.ext QU.keep ?_
  · rintro p x N w2 w3 ⟨bl, rq, mp, mt, mx, mr, ms, uq, L, ⟨rfl, r, a, b', c', d', e', rfl, rfl, rfl, rfl, rfl, rfl, rfl, rfl⟩, hs, hL⟩ e2 hx
    refine v27_true hx (Sch.ext ⟨hs, (hL (a, _) (by simp)).2, (hL (b', _) (by simp)).2, (hL (c', _) (by simp)).2, (hL (d', _) (by simp)).2, (hL (e', _) (by simp)).2⟩ e2) hok hcn h20
  · rintro kx g w2 ⟨kk, j, i, hi, hj, rfl, h4, h5, h6, h7⟩ ⟨A, c, hg⟩
    refine (errorOf_uniq g kk j i A c w2 hg h7).mono ?_
    rintro e w' ⟨⟨cs, rfl, P, cp, A', ca, N, cn, rfl, hE⟩, he⟩
    exact ⟨⟨_, _, _, _, _, _, _, _, _, rfl, j, i, hi, hj, h4, h5, h6, P, cp, A', ca, N, cn, rfl, hE⟩, he⟩

theorem errs_false (nb : Nat) (w : World) (hb : w.heap[nb]? = some (.cells (node 2 false) 44 (0, 0))) :
    Calls Tryz.prog 13 #[.slice (some ⟨nb, 0, none⟩) 1 1, .agg (jv 0 false 0 ⟨#[]⟩ none 0 0 none 0 0)] w (DraftRes False EofF w) := by
  have ha : ∀ w, JV.At w (.mk 0 false 0 ⟨#[]⟩ [] []) [.int .i64 0, .bool false, .int .i64 0, .string ⟨#[]⟩, .slice none 0 0, .slice none 0 0] := fun w => by
    simp [JV.At, Strs, JV.All]; decide
  have hok : (JV.mk 0 false 0 ⟨#[]⟩ [] []).Ok := .mk _ _ _ _ _ _ (by decide) (by decide) (fun h => rfl) (fun i h => absurd h (by simp))
  refine jerr_c _ _ _ _ _ _ _ _ _ _ _ _ nb w EofF.keep fun w1 e1 => ?_
  refine draft_c 2 false Fill2 (.mk 0 false 0 ⟨#[]⟩ [] []) _ _ _ _ _ _ _ _ _ _ _ TellF _ nb w1 (box_ext hb e1) set2 (fun w2 e2 => of_c _ hok (by decide) _ _ (ha _)) ?_ TellF.ext EofF.keep ?_
  · rintro p x N w2 w3 ⟨bl, rq, mp, mt, mx, mr, ms, uq, L, ⟨b, rfl, rfl, rfl, rfl, rfl, rfl, rfl, rfl, rfl⟩, hs, hL⟩ e2 hx
    cases hx with
    | nul => exact v27_false (box_ext hs e2) (box_ext (hL (b, _) (by simp)).2 e2)
    | bool => omega
    | text => omega
    | list => omega
    | obj => omega
  · rintro kx g w2 ⟨kk, rfl⟩ ⟨A, c, hg⟩
    refine (errorOf_false g kk A c w2 hg).mono ?_
    rintro e w' ⟨⟨cs, rfl, P, cp, A', ca, rfl⟩, he⟩
    exact ⟨⟨_, _, _, _, _, _, _, _, _, rfl, P, cp, A', ca, rfl⟩, he⟩

end Go.Proofs.YtgkjdgolffnagaaGreatDoor
set_option linter.unusedVariables false
namespace Go.Proofs.YtgkjdgolffnagaaGreatDoor
open Go.RowKit

theorem NE : (sUniq.toList == sSchema.toList) = false := by rw [ByteArray.toList_eq, ByteArray.toList_eq]; decide
theorem NF : (sFalse.toList == sSchema.toList) = false := by rw [ByteArray.toList_eq, ByteArray.toList_eq]; decide
theorem row_ext {w w' : World} {G i : Nat} {kd : ByteArray} {P2 : Option Addr} {lp cp : Nat} {A2 : Option Addr} {ca : Nat} {N2 : Option Addr} {ln cn : Nat} (h : w.cell? ⟨G, i, none⟩ = (je kd P2 lp cp A2 ca N2 ln cn none 0 0)[i]?) (hi : i < 8) (e : Ext w w') : w'.cell? ⟨G, i, none⟩ = (je kd P2 lp cp A2 ca N2 ln cn none 0 0)[i]? := by
  obtain ⟨u, hu⟩ : ∃ u, (je kd P2 lp cp A2 ca N2 ln cn none 0 0)[i]? = some u := ⟨_, Array.getElem?_eq_getElem (by simpa using hi)⟩
  rw [hu] at h ⊢
  exact e.cell h

theorem takes_no {nb : Nat} {k : Int} {b : Bool} {n : Int} {t : ByteArray} {A : Option Addr} {la c : Nat} {B : Option Addr} {lb d : Nat} {p : Prop} (hp : ¬ p) {w : World} (h : Calls Tryz.prog 41 #[.int .i64 2020, .agg (jn nb), .int .i64 1, .agg (jv k b n t A la c B lb d)] w fun e w' => RetIff p e ∧ Ext w w') :
    Calls Tryz.prog 41 #[.int .i64 2020, .agg (jn nb), .int .i64 1, .agg (jv k b n t A la c B lb d)] w fun e w' => e = .returned (.bool false) ∧ Ext w w' := by
  refine h.mono ?_
  rintro e w' ⟨⟨r, rfl, hr⟩, he⟩
  have : r = false := by cases r; rfl; exact absurd (hr.1 rfl) hp
  exact ⟨by rw [this], he⟩

/-- The one error at 'uniqueItems' is right. -/
theorem right_uniq (v : JV) (k : Int) (b : Bool) (n : Int) (t : ByteArray) (A0 : Option Addr) (la c : Nat) (B0 : Option Addr) (lb d : Nat) (nb : Nat) (w : World) (h : v.At w [.int .i64 k, .bool b, .int .i64 n, .string t, .slice A0 la c, .slice B0 lb d])
    (hok : v.Ok) (hcn : v.counts = true) (hb : w.heap[nb]? = some (.cells (node 0 true) 44 (0, 0)))
    (P : Nat) (A' : Option Addr) (G ck : Nat) (cs : Array Value) (hq : ∃ q, QU v cs q w) (hc : ∀ i, i < 8 → w.cell? ⟨G, i, none⟩ = cs[i]?) :
    Calls Tryz.prog 16 #[.int .i64 2020, .slice (some ⟨nb, 0, none⟩) 1 1, .agg (jv k b n t A0 la c B0 lb d), .agg (je sSchema (some ⟨P, 0, none⟩) 0 0 A' 0 none 0 0 (some ⟨G, 0, none⟩) 1 ck)] w fun e w' => e = .returned (.bool true) ∧ Ext w w' := by
  obtain ⟨q, j, i, hi, hj, h4, hji, heq, P2, cp, A2, ca, N, cn, rfl, -, -, hP, hN0, hN1⟩ := hq
  have tw : ¬ ¬ TwinJ v := fun hn => hn ⟨h4, i, j, hi, hj, hji, heq⟩
  have htk : ∀ w', Ext w w' → Calls Tryz.prog 41 #[.int .i64 2020, .agg (jn nb), .int .i64 1, .agg (jv k b n t A0 la c B0 lb d)] w' fun e w'' => e = .returned (.bool false) ∧ Ext w' w'' :=
    fun w' e => takes_no tw (takes_of nb k b n t A0 la c B0 lb d w' _ fun w'' e' => (judge_v nb v hok hcn _ w'' ((h.ext e).ext e') (box_ext (box_ext hb e) e')).mono fun _ _ h3 => ⟨h3.1, e'.trans h3.2⟩)
  refine right_c nb k b n t A0 la c B0 lb d _ _ _ _ _ _ _ _ _ _ _ _ w fun w1 sb e1 hsb => ?_
  refine err_top nb sb k b n t A0 la c B0 lb d _ _ _ _ _ _ _ _ _ sUniq (some ⟨P2, 0, none⟩) 1 cp A2 ca (some ⟨N, 0, none⟩) 2 cn G ck w1 hsb (fun w' e => path_schema _ _ _ _ _ _ _ _ _ _ w') (fun w' e => htk w' (e1.trans e)) (fun w' e => kind_top nb k b n t A0 la c B0 lb d _ _ _ _ _ _ _ _ _ _ w' (box_ext hb (e1.trans e))) (fun i hi => ?_) (fun w' e => ?_)
  · have hx := hc i hi
    obtain ⟨u, hu⟩ : ∃ u, (je sUniq (some ⟨P2, 0, none⟩) 1 cp A2 ca (some ⟨N, 0, none⟩) 2 cn none 0 0)[i]? = some u := ⟨_, Array.getElem?_eq_getElem (by simpa using hi)⟩
    rw [hu] at hx ⊢
    exact e1.cell hx
  · have e2 := e1.trans e
    refine err_kid nb sb k b n t A0 la c B0 lb d _ _ _ _ _ _ _ _ _ w' (box_ext hsb e) (fun w'' e' => path_uniq P2 cp A2 ca _ _ _ _ _ _ w'' ((e2.trans e').cell hP)) (fun w'' e' => htk w'' (e2.trans e')) (fun w'' e' => ?_)
    have e3 := e2.trans e'
    obtain ⟨k', b', n', t', ns, is⟩ := v
    have h' := h.ext e3
    simp only [JV.At] at h'
    obtain ⟨A, c', B, d', hcs, hS, hl, hA, ht⟩ := h'
    simp only [List.cons.injEq, Value.int.injEq, Value.bool.injEq, Value.string.injEq, Value.slice.injEq, true_and, and_true] at hcs
    obtain ⟨rfl, rfl, rfl, rfl, ⟨rfl, rfl, rfl⟩, ⟨rfl, rfl, rfl⟩⟩ := hcs
    cases hok with | mk _ _ _ _ _ _ h0 h5 hni hok
    have h4' : k = 4 := h4
    subst h4'
    exact kind_uniq nb b n t ns is hok (counts_mk hcn).2 A0 c B0 d _ _ _ A2 ca N cn w'' hl ht hA j i hi hj hji heq (e3.cell hN0) (e3.cell hN1) (box_ext hb e3)

set_option maxHeartbeats 2000000 in
set_option maxRecDepth 100000 in
theorem tells_uniq (v : JV) (k : Int) (b : Bool) (n : Int) (t : ByteArray) (A0 : Option Addr) (la c : Nat) (B0 : Option Addr) (lb d : Nat) (nb : Nat) (kg kc : Nat) (w : World) (h : v.At w [.int .i64 k, .bool b, .int .i64 n, .string t, .slice A0 la c, .slice B0 lb d])
    (hok : v.Ok) (hcn : v.counts = true) (h20 : v.kind = 4 → v.items.length ≤ 20) (hb : w.heap[nb]? = some (.cells (node 0 true) 44 (0, 0))) (hkg : w.cell? ⟨kg, 0, none⟩ = some (.string sUniq)) :
    Calls Tryz.prog 7 #[.slice (some ⟨nb, 0, none⟩) 1 1, .agg (jv k b n t A0 la c B0 lb d), .slice (some ⟨kg, 0, none⟩) 1 kc] w fun e w' => e = .returned (.bool true) ∧ Ext w w' := by
  have H := Sd.mk h
  have HB := Sd.mk hb
  have HKG := Sd.mk hkg
  have HJ : Sd (∀ w', Ext w w' → Calls Tryz.prog 13 #[.slice (some ⟨nb, 0, none⟩) 1 1, .agg (jv k b n t A0 la c B0 lb d)] w' (DraftRes (¬ TwinV v) (QU v) w')) := ⟨fun w' e => errs_uniq v k b n t A0 la c B0 lb d nb w' (h.ext e) hok hcn h20 (box_ext hb e)⟩
  have HV : Sd (∀ w', Ext w w' → Calls Tryz.prog 14 #[.slice (some ⟨nb, 0, none⟩) 1 1, .agg (jv k b n t A0 la c B0 lb d)] w' fun e w'' => RetIff (¬ TwinJ v) e ∧ Ext w' w'') := ⟨fun w' e => valid_of nb k b n t A0 la c B0 lb d w' _ fun w'' e' => (judge_v nb v hok hcn _ w'' ((h.ext e).ext e') (box_ext (box_ext hb e) e')).mono fun _ _ h3 => ⟨h3.1, e'.trans h3.2⟩⟩
  have HR : Sd (∀ w' P A' G ck cs, Ext w w' → (∃ q, QU v cs q w') → (∀ i, i < 8 → w'.cell? ⟨G, i, none⟩ = cs[i]?) → Calls Tryz.prog 16 #[.int .i64 2020, .slice (some ⟨nb, 0, none⟩) 1 1, .agg (jv k b n t A0 la c B0 lb d), .agg (je sSchema (some ⟨P, 0, none⟩) 0 0 A' 0 none 0 0 (some ⟨G, 0, none⟩) 1 ck)] w' fun e w'' => e = .returned (.bool true) ∧ Ext w' w'') := ⟨fun w' P A' G ck cs e hq hc => right_uniq v k b n t A0 la c B0 lb d nb w' (h.ext e) hok hcn (box_ext hb e) P A' G ck cs hq hc⟩
  clear h hok hcn h20 hb hkg
  go_enter Tryz.func7, Tryz.ntmps7
  go_wp2_with (first
    | (refine wpList_load_row rfl 25 _ rfl w.heap.size rfl 25 (jv k b n t A0 la c B0 lb d) (0, 0) _ (box_alloc w _) Tryz.underlying25 rfl s25 ?_)
    | fail)
  go_at_call 13
  refine (HJ.out _ ((Ext.refl w).alloc _)).mono ?_
  rintro e w3 ⟨he, (⟨ha, rfl⟩ | ⟨P, A', G2, ck, kd, P2, lp, cp, A2, ca, N2, ln, cn, rfl, hq, hG, hc⟩)⟩
  · have HE3 := Sd.mk (((Ext.refl w).alloc _).trans he)
    have H5 := Sd.mk (box_ext (box_alloc w _) he)
    have HA := Sd.mk ha
    clear he ha
    go_wp2_with (first
      | (refine wpList_store_row rfl 49 _ _ rfl _ ze _ rfl rfl 49 (box_alloc _ _) rfl s49' (by simp [Value.oneCell', ze]) ?_; intro wn hn1 hn2; have HX : Sd (Ext w wn) := ⟨Ext.over (HE3.out.alloc _) hn2 HE3.out.size⟩; have H5 := Sd.mk (grown_keep hn2 (box_keep H5.out _) (by have := box_lt H5.out; omega)); clear hn1 hn2)
      | (refine wpList_load_row rfl 25 _ rfl w.heap.size rfl 25 (jv k b n t A0 la c B0 lb d) (0, 0) _ H5.out Tryz.underlying25 rfl s25 ?_)
      | (go_at_call 14; refine (HV.out _ HX.out).mono ?_; rintro e w5 ⟨⟨r, rfl, hr⟩, he⟩; have hrt : r = true := hr.2 HA.out; have HE5 := Sd.mk (HX.out.trans he); subst hrt; clear hr he)
      | fail)
    go_ret
    exact ⟨rfl, HE5.out⟩
  · have HE3 := Sd.mk (((Ext.refl w).alloc _).trans he)
    have H5 := Sd.mk (box_ext (box_alloc w _) he)
    obtain rfl : kd = sUniq := by
      obtain ⟨j, i, hi, hj, -, -, -, P2, cp, A2, ca, N, cn, h1, -⟩ := hq
      have := congrArg (fun x : Array Value => x[1]?) h1
      simpa using this
    have HQ := Sd.mk hq; have HC := Sd.mk hc
    clear he hq hG hc
    go_wp2_with (first
      | (refine wpList_store_row rfl 49 _ _ rfl _ (je sSchema (some ⟨P, 0, none⟩) 0 0 A' 0 none 0 0 (some ⟨G2, 0, none⟩) 1 ck) _ rfl rfl 49 (box_alloc _ _) rfl s49' (by simp [Value.oneCell']) ?_; intro wn hn1 hn2; have HX : Sd (Ext w wn) := ⟨Ext.over (HE3.out.alloc _) hn2 HE3.out.size⟩; have H5 := Sd.mk (grown_keep hn2 (box_keep H5.out _) (by have := box_lt H5.out; omega)); have H7 := Sd.mk hn1; have HX3 : Sd (Ext w3 wn) := ⟨Ext.over ((Ext.refl w3).alloc _) hn2 (Nat.le_refl _)⟩; clear hn1 hn2)
      | (refine wpList_load_row rfl 25 _ rfl w.heap.size rfl 25 (jv k b n t A0 la c B0 lb d) (0, 0) _ H5.out Tryz.underlying25 rfl s25 ?_)
      | (refine wpList_load_row_g (by rfl) 25 _ rfl w.heap.size rfl 25 (jv k b n t A0 la c B0 lb d) (0, 0) _ H5.out Tryz.underlying25 rfl s25 ?_)
      | (refine wpList_load_row rfl 49 _ rfl w3.heap.size rfl 49 (je sSchema (some ⟨P, 0, none⟩) 0 0 A' 0 none 0 0 (some ⟨G2, 0, none⟩) 1 ck) (0, 0) _ H7.out Tryz.underlying49 rfl s49' ?_)
      | (refine wpList_load_row_g (by rfl) 49 _ rfl w3.heap.size rfl 49 (je sSchema (some ⟨P, 0, none⟩) 0 0 A' 0 none 0 0 (some ⟨G2, 0, none⟩) 1 ck) (0, 0) _ H7.out Tryz.underlying49 rfl s49' ?_)
      | (go_at_call 15; refine (kinds_top sUniq NE (some ⟨P, 0, none⟩) 0 0 A' 0 none 0 0 P2 lp cp A2 ca N2 ln cn G2 ck kg kc _ (HX.out.cell HKG.out) (fun i hi => row_ext (HC.out i hi) hi HX3.out)).mono ?_; rintro e w6 ⟨rfl, he⟩; have HX6 := Sd.mk (HX.out.trans he); have HX36 := Sd.mk (HX3.out.trans he); have H5 := Sd.mk (box_ext H5.out he); have H7 := Sd.mk (box_ext H7.out he); clear he)
      | (go_at_call 16; refine (HR.out _ P A' G2 ck _ HX6.out ⟨_, QU.keep _ _ _ _ _ (Nat.le_refl _) HQ.out (fun p n v _ h => HX36.out.cell h)⟩ (fun i hi => row_ext (HC.out i hi) hi HX36.out)).mono ?_; rintro e w7 ⟨rfl, he⟩; have HX7 := Sd.mk (HX6.out.trans he); clear he)
      | fail)
    go_ret
    exact ⟨rfl, HX7.out⟩

end Go.Proofs.YtgkjdgolffnagaaGreatDoor
