/- Parts of the proof of the statement that this folder hands in: lemmas and contracts (N, O). -/
import Derived.Test.YtgkjdgolffnagaaGreatDoorM
set_option linter.unusedSimpArgs false
set_option linter.unusedVariables false
namespace Go.Proofs.YtgkjdgolffnagaaGreatDoor
open Go.RowKit
open Go.ChangeMaps (setBlock)

theorem nodup_len {α : Type} : ∀ {l m : List α}, l.Nodup → (∀ x ∈ l, x ∈ m) → l.length ≤ m.length
  | [], _, _, _ => Nat.zero_le _
  | x :: r, m, hn, hs => by
    classical
    obtain ⟨h1, h2⟩ := List.nodup_cons.1 hn
    have hx := hs x (by simp)
    have := nodup_len (m := m.erase x) h2 fun y hy => by
      have hne : y ≠ x := by rintro rfl; exact h1 hy
      exact (List.mem_erase_of_ne hne).2 (hs y (by simp [hy]))
    rw [List.length_erase_of_mem hx] at this
    have : 0 < m.length := List.length_pos_of_mem hx
    simp; omega
theorem nodup_back {α : Type} {l m : List α} (hn : l.Nodup) (hs : ∀ x ∈ l, x ∈ m) (hl : m.length ≤ l.length) : ∀ x ∈ m, x ∈ l := by
  intro x hx
  apply Classical.byContradiction
  intro hc
  have := nodup_len (l := x :: l) (m := m) (List.nodup_cons.2 ⟨hc, hn⟩) (by simpa [hx] using hs)
  simp at this; omega

theorem as_yes {P : Program} {T X : TypeId} {d : TypeDesc} (hu : P.underlying T = some d) (hn : ∀ m, d ≠ .interface m) (v : Value) (w : World) : (Instr.typeAssert (.iface T v) X T true).run P w = .ok (.tuple #[v, .bool true]) w := by
  cases d <;> simp [Instr.typeAssert, run_underlying hu, Result.andThen]
  exact absurd rfl (hn _)
theorem as_no {P : Program} {T X D : TypeId} {d : TypeDesc} {i : TypeInfo} {z : Value} (hu : P.underlying T = some d) (hn : ∀ m, d ≠ .interface m) (hi : P.info? T = some i) (hz : i.zero = some z) (hne : D ≠ T) (v : Value) (w : World) :
    (Instr.typeAssert (.iface D v) X T true).run P w = .ok (.tuple #[z, .bool false]) w := by
  cases d <;> simp [Instr.typeAssert, run_underlying hu, Result.andThen, hne, zeroValue, typeInfo, hi, hz]
  exact absurd rfl (hn _)
theorem as_nil {P : Program} {T X : TypeId} {d : TypeDesc} {i : TypeInfo} {z : Value} (hu : P.underlying T = some d) (hn : ∀ m, d ≠ .interface m) (hi : P.info? T = some i) (hz : i.zero = some z) (w : World) :
    (Instr.typeAssert .nilIface X T true).run P w = .ok (.tuple #[z, .bool false]) w := by
  cases d <;> simp [Instr.typeAssert, run_underlying hu, Result.andThen, zeroValue, typeInfo, hi, hz]
theorem zero_of {P : Program} {T : TypeId} {z : Value} (h : (P.info? T).map (·.zero) = some (some z)) : ∃ i, P.info? T = some i ∧ i.zero = some z := by
  obtain ⟨i, hi, hz⟩ := Option.map_eq_some_iff.1 h
  exact ⟨i, hi, hz⟩
theorem zz108 : (Tryz.prog.info? 108).map (·.zero) = some (some (.map none)) := by kernel_rfl
theorem zz112 : (Tryz.prog.info? 112).map (·.zero) = some (some (.slice none 0 0)) := by kernel_rfl
theorem zz4 : (Tryz.prog.info? 4).map (·.zero) = some (some (.bool false)) := by kernel_rfl
theorem zz9 : (Tryz.prog.info? 9).map (·.zero) = some (some (.string ⟨#[]⟩)) := by kernel_rfl
theorem y108 (v w) : (Instr.typeAssert (.iface 108 v) 20 108 true).run Tryz.prog w = .ok (.tuple #[v, .bool true]) w := as_yes Tryz.underlying108 (by simp) v w
theorem y112 (v w) : (Instr.typeAssert (.iface 112 v) 20 112 true).run Tryz.prog w = .ok (.tuple #[v, .bool true]) w := as_yes Tryz.underlying112 (by simp) v w
theorem y4 (v w) : (Instr.typeAssert (.iface 4 v) 20 4 true).run Tryz.prog w = .ok (.tuple #[v, .bool true]) w := as_yes Tryz.underlying4 (by simp) v w
theorem y9 (v w) : (Instr.typeAssert (.iface 9 v) 20 9 true).run Tryz.prog w = .ok (.tuple #[v, .bool true]) w := as_yes Tryz.underlying9 (by simp) v w
theorem n108 (D v w) (h : D ≠ 108) : (Instr.typeAssert (.iface D v) 20 108 true).run Tryz.prog w = .ok (.tuple #[.map none, .bool false]) w := by
  obtain ⟨i, hi, hz⟩ := zero_of zz108; exact as_no Tryz.underlying108 (by simp) hi hz h v w
theorem n112 (D v w) (h : D ≠ 112) : (Instr.typeAssert (.iface D v) 20 112 true).run Tryz.prog w = .ok (.tuple #[.slice none 0 0, .bool false]) w := by
  obtain ⟨i, hi, hz⟩ := zero_of zz112; exact as_no Tryz.underlying112 (by simp) hi hz h v w
theorem n4 (D v w) (h : D ≠ 4) : (Instr.typeAssert (.iface D v) 20 4 true).run Tryz.prog w = .ok (.tuple #[.bool false, .bool false]) w := by
  obtain ⟨i, hi, hz⟩ := zero_of zz4; exact as_no Tryz.underlying4 (by simp) hi hz h v w
theorem n9 (D v w) (h : D ≠ 9) : (Instr.typeAssert (.iface D v) 20 9 true).run Tryz.prog w = .ok (.tuple #[.string ⟨#[]⟩, .bool false]) w := by
  obtain ⟨i, hi, hz⟩ := zero_of zz9; exact as_no Tryz.underlying9 (by simp) hi hz h v w
theorem l108 (w) : (Instr.typeAssert .nilIface 20 108 true).run Tryz.prog w = .ok (.tuple #[.map none, .bool false]) w := by
  obtain ⟨i, hi, hz⟩ := zero_of zz108; exact as_nil Tryz.underlying108 (by simp) hi hz w
theorem l112 (w) : (Instr.typeAssert .nilIface 20 112 true).run Tryz.prog w = .ok (.tuple #[.slice none 0 0, .bool false]) w := by
  obtain ⟨i, hi, hz⟩ := zero_of zz112; exact as_nil Tryz.underlying112 (by simp) hi hz w
theorem l4 (w) : (Instr.typeAssert .nilIface 20 4 true).run Tryz.prog w = .ok (.tuple #[.bool false, .bool false]) w := by
  obtain ⟨i, hi, hz⟩ := zero_of zz4; exact as_nil Tryz.underlying4 (by simp) hi hz w
theorem l9 (w) : (Instr.typeAssert .nilIface 20 9 true).run Tryz.prog w = .ok (.tuple #[.string ⟨#[]⟩, .bool false]) w := by
  obtain ⟨i, hi, hz⟩ := zero_of zz9; exact as_nil Tryz.underlying9 (by simp) hi hz w

def Told (p : Prop) (e : Ending) : Prop := ∃ r : Bool, e = .returned (.tuple #[.bool r, .nilIface]) ∧ (r = true ↔ p)
def EqA (a b : JV) : Prop := ∀ x y w N N', Any w N x a → Any w N' y b → Calls Tryz.prog 143 #[x, y] w fun e w' => Told (JEq a b) e ∧ Ext w w'

/-- What a map's entries are of an object. -/
structure ObjOf (ns : List ByteArray) (is : List JV) (es : Array MapEntry) (clock : Nat) (q : MapEntry → Nat) : Prop where
  F : Ents es clock
  K : ∀ e ∈ es.toList, ∃ s, e.key = .string s ∧ mem ns s = some (q e) ∧ q e < is.length
  N : ∀ s ∈ ns, ∃ e ∈ es.toList, e.key = .string s

theorem mem_in {ns : List ByteArray} {s : ByteArray} {i : Nat} (h : mem ns s = some i) : s ∈ ns := by
  obtain ⟨h1, h2, _⟩ := mem_some.1 h
  exact h2 ▸ List.getElem_mem h1

section
variable {ns ns' : List ByteArray} {is is' : List JV} {es es' : Array MapEntry} {clock clock' : Nat} {q q' : MapEntry → Nat} {b b' : Bool} {n n' : Int} {t t' : ByteArray}

theorem ObjOf.sub (O : ObjOf ns is es clock q) (O' : ObjOf ns' is' es' clock' q') (h : Has ns ns') : ∀ x ∈ es.toList.map (·.key), x ∈ es'.toList.map (·.key) := by
  intro x hx
  obtain ⟨e, he, rfl⟩ := List.mem_map.1 hx
  obtain ⟨s, hs, hm, _⟩ := O.K e he
  obtain ⟨e', he', hk'⟩ := O'.N s (h s (mem_in hm))
  exact List.mem_map.2 ⟨e', he', by rw [hk', hs]⟩
theorem ObjOf.size (O : ObjOf ns is es clock q) (O' : ObjOf ns' is' es' clock' q') (h : JEq (.mk 5 b n t ns is) (.mk 5 b' n' t' ns' is')) : es.size = es'.size := by
  cases h with | mk _ _ _ _ _ _ _ _ _ _ _ _ _ _ _ _ _ h6 h7 _
  have h1 := nodup_len O.F.st.2.2 (O.sub O' (h6 rfl))
  have h2 := nodup_len O'.F.st.2.2 (O'.sub O (h7 rfl))
  simp at h1 h2; omega
theorem ObjOf.bad1 (O : ObjOf ns is es clock q) (O' : ObjOf ns' is' es' clock' q') {e : MapEntry} {s : ByteArray} (he : e ∈ es.toList) (hs : e.key = .string s) (hn : ∀ x ∈ es'.toList, x.key ≠ .string s) :
    ¬ JEq (.mk 5 b n t ns is) (.mk 5 b' n' t' ns' is') := by
  intro h
  cases h with | mk _ _ _ _ _ _ _ _ _ _ _ _ _ _ _ _ _ h6 h7 _
  obtain ⟨s', hs', hm, _⟩ := O.K e he
  rw [hs] at hs'; cases hs'
  obtain ⟨e', he', hk'⟩ := O'.N s (h6 rfl s (mem_in hm))
  exact hn e' he' hk'
theorem ObjOf.bad2 (O : ObjOf ns is es clock q) (O' : ObjOf ns' is' es' clock' q') {e e' : MapEntry} {s : ByteArray} (he : e ∈ es.toList) (hs : e.key = .string s) (he' : e' ∈ es'.toList) (hs' : e'.key = .string s)
    (h : q e < is.length) (h' : q' e' < is'.length) (hne : ¬ JEq is[q e] is'[q' e']) : ¬ JEq (.mk 5 b n t ns is) (.mk 5 b' n' t' ns' is') := by
  intro hj
  cases hj with | mk _ _ _ _ _ _ _ _ _ _ _ _ _ _ _ _ _ _ _ h8
  obtain ⟨s1, hs1, hm, _⟩ := O.K e he
  rw [hs] at hs1; cases hs1
  obtain ⟨s2, hs2, hm', _⟩ := O'.K e' he'
  rw [hs'] at hs2; cases hs2
  obtain ⟨x1, x2, _⟩ := mem_some.1 hm
  exact hne (h8 rfl (q e) h (by rw [getD_of x1, x2]; exact hm) (q' e') h' (by rw [getD_of x1, x2]; exact hm'))
def Same (is is' : List JV) (es' : Array MapEntry) (q q' : MapEntry → Nat) (e : MapEntry) : Prop :=
  ∃ e' ∈ es'.toList, e'.key = e.key ∧ ∀ (h : q e < is.length) (h' : q' e' < is'.length), JEq is[q e] is'[q' e']
theorem ObjOf.all (O : ObjOf ns is es clock q) (O' : ObjOf ns' is' es' clock' q') (hl : es.size = es'.size) (hg : ∀ e ∈ es.toList, Same is is' es' q q' e) :
    JEq (.mk 5 b n t ns is) (.mk 5 b' n' t' ns' is') := by
  have hsub : ∀ x ∈ es.toList.map (·.key), x ∈ es'.toList.map (·.key) := fun x hx => by
    obtain ⟨e, he, rfl⟩ := List.mem_map.1 hx
    obtain ⟨e', he', hk, _⟩ := hg e he
    exact List.mem_map.2 ⟨e', he', hk⟩
  have hback := nodup_back O.F.st.2.2 hsub (by simp [hl])
  refine .mk _ _ _ _ _ _ _ _ _ _ _ _ rfl (by simp) (by simp) (by simp) (by simp) (fun _ s hs => ?_) (fun _ s hs => ?_) fun _ i h hm p hp hmp => ?_
  · obtain ⟨e, he, hk⟩ := O.N s hs
    obtain ⟨e', he', hk', _⟩ := hg e he
    obtain ⟨s', hs', hm', _⟩ := O'.K e' he'
    rw [hk', hk] at hs'; cases hs'
    exact mem_in hm'
  · obtain ⟨e', he', hk'⟩ := O'.N s hs
    obtain ⟨e, he, hk⟩ := List.mem_map.1 (hback _ (List.mem_map.2 ⟨e', he', rfl⟩))
    obtain ⟨s', hs', hm', _⟩ := O.K e he
    rw [hk, hk'] at hs'; cases hs'
    exact mem_in hm'
  · obtain ⟨e, he, hk⟩ := O.N _ (mem_in hm)
    obtain ⟨s, hs, hm2, hlt⟩ := O.K e he
    rw [hk] at hs; cases hs
    have e1 : q e = i := by rw [hm] at hm2; exact (Option.some.inj hm2).symm
    obtain ⟨e', he', hk', hj⟩ := hg e he
    obtain ⟨s', hs', hm3, hlt'⟩ := O'.K e' he'
    rw [hk', hk] at hs'; cases hs'
    have e2 : q' e' = p := by rw [hmp] at hm3; exact (Option.some.inj hm3).symm
    have := hj hlt hlt'
    subst e1 e2
    exact this
end


end Go.Proofs.YtgkjdgolffnagaaGreatDoor
set_option linter.unusedVariables false
namespace Go.Proofs.YtgkjdgolffnagaaGreatDoor
open Go.RowKit
open Go.ChangeMaps (setBlock)

theorem len_map {w : World} {r : Nat} {es : Array MapEntry} {clock : Nat} (h : w.heap[r]? = some (.map es clock)) : (Builtin.len_ #[108] 3 #[.map (some r)]).run Tryz.prog w = .ok (.int .i64 es.size) w := by
  simp [Builtin.len_, run_underlying Tryz.underlying108, MapKept.run_getObj_map h, goInt]

/-- How many entries have not come. -/
def leftN (es : Array MapEntry) (seen : Array Nat) : Nat := (es.toList.filter fun e => decide (e.born ∉ seen)).length
theorem leftN_push {es : Array MapEntry} {seen : Array Nat} {e : MapEntry} (he : e ∈ es.toList) (hs : e.born ∉ seen) : leftN es (seen.push e.born) < leftN es seen := by
  unfold leftN
  exact filter_lt _ _ (fun x hx => by simp at hx ⊢; exact hx.1) e (by simpa using hs) (by simp) _ he

set_option maxHeartbeats 4000000 in
set_option maxRecDepth 100000 in
theorem equals_obj {b b' : Bool} {n n' : Int} {t t' : ByteArray} {ns ns' : List ByteArray} {is is' : List JV} {es es' : Array MapEntry} {clock clock' : Nat} {q q' : MapEntry → Nat} {N N' : Nat → Prop} (r r' : Nat) (w : World)
    (ih : ∀ i (h : i < is.length) q (h' : q < is'.length), EqA is[i] is'[q]) (o : ObjOf ns is es clock q) (o' : ObjOf ns' is' es' clock' q') (hm : w.heap[r]? = some (.map es clock)) (hm' : w.heap[r']? = some (.map es' clock'))
    (hx : ∀ e ∈ es.toList, ∀ h : q e < is.length, Any w N e.val is[q e]) (hx' : ∀ e ∈ es'.toList, ∀ h : q' e < is'.length, Any w N' e.val is'[q' e]) :
    Calls Tryz.prog 143 #[.iface 108 (.map (some r)), .iface 108 (.map (some r'))] w fun e w' => Told (JEq (.mk 5 b n t ns is) (.mk 5 b' n' t' ns' is')) e ∧ Ext w w' := by
  have a1 := y108
  have IH := Sd.mk ih
  have O := Sd.mk o
  have O' := Sd.mk o'
  have HM := Sd.mk hm
  have HM' := Sd.mk hm'
  have HX := Sd.mk hx
  have HX' := Sd.mk hx'
  clear ih o o' hx hx' hm hm'
  have m1 := len_map HM.out
  have m2 := len_map HM'.out
  by_cases hlen : es.size = es'.size
  · have hl2 : ((es.size : Int) != (es'.size : Int)) = false := by simp [hlen]
    have HL := Sd.mk hlen
    clear hlen
    go_enter Tryz.func143, Tryz.ntmps143
    go_wp2_with (first | (at_range; refine wp_range _ rfl _ 108 rfl 9 20 Tryz.underlying108 r HM.out rfl ?_) | fail)
    go_frame
    go_loopg [9] (leftN es #[]) (fun g v9 wr => ∃ seen : Array Nat, g = leftN es seen ∧ Sd (wr.heap[w.heap.size]? = some (.mapIter (some r) clock seen clock)) ∧ Sd (Ext w wr) ∧
      Sd (∀ e ∈ es.toList, e.born ∈ seen → Same is is' es' q q' e))
    case atStart => exact ⟨#[], rfl, ⟨box_alloc _ _⟩, ⟨(Ext.refl _).alloc _⟩, ⟨fun e _ h => absurd h (by simp)⟩⟩
    case round =>
      obtain ⟨seen, rfl, HI, HE, HA⟩ := hrel
      have hrlt := (Array.getElem?_eq_some_iff.1 HM.out).1
      have hrlt' := (Array.getElem?_eq_some_iff.1 HM'.out).1
      go_wp2_with (at_next; refine wp_next _ rfl _ rfl r w.heap.size O.out.F (box_ext HM.out HE.out) HI.out rfl ?_ ?_)
      · intro hd
        have HD := Sd.mk (O.out.all (b := b) (b' := b') (n := n) (n' := n') (t := t) (t' := t') O'.out HL.out fun e he => HA.out e he (hd e (by simpa using he)))
        clear hd
        go_wp2_with fail
        go_ret2
        exact ⟨⟨true, rfl, by simp; exact HD.out⟩, HE.out⟩
      · intro e w1 s he' hse hks hw1 hen
        have he : e ∈ es.toList := by simpa using he'
        clear he'
        have HW1 : Sd (Ext w w1 ∧ w1.heap = wr.heap) := by
          rcases hw1 with rfl | rfl
          · exact ⟨HE.out, rfl⟩
          · exact ⟨HE.out.drewN 1, rfl⟩
        have HE1 := Sd.mk (HW1.out.1.set (b := w.heap.size) (Nat.le_refl _) (.mapIter (some r) clock (seen.push e.born) clock))
        have HI1 := Sd.mk (set_same (w := w1) (o := .mapIter (some r) clock (seen.push e.born) clock) (by rw [HW1.out.2]; exact HI.out))
        have HN := Sd.mk (leftN_push he hse)
        have HKS := Sd.mk hks
        have HSE := Sd.mk hse
        obtain ⟨s1, hs1, hm1, hq1⟩ := O.out.K e he
        clear hw1 hse hm1 hs1 hks
        rcases O'.out.F.look true (box_ext HM'.out HE1.out) Tryz.underlying108 Tryz.underlying9 (zero20 _) s with ⟨hrun, hnone⟩ | ⟨e0, he0, hk0, hrun⟩
        · have NE := Sd.mk (O.out.bad1 (b := b) (b' := b') (n := n) (n' := n') (t := t) (t' := t') O'.out he HKS.out hnone)
          clear hnone
          simp only [if_true] at hrun
          go_wp2_with fail
          go_ret2
          exact ⟨⟨false, rfl, by simp; exact NE.out⟩, HE1.out⟩
        · simp only [if_true] at hrun
          obtain ⟨s2, hs2, hm2, hq2⟩ := O'.out.K e0 he0
          have HK0 := Sd.mk hk0
          clear hs2 hm2 hk0
          go_wp2_with fail
          refine (IH.out (q e) hq1 (q' e0) hq2 _ _ _ _ _ ((HX.out e he hq1).ext HE1.out) ((HX'.out e0 he0 hq2).ext HE1.out)).mono ?_
          rintro en w' ⟨⟨res, rfl, hr⟩, hx⟩
          have HR := Sd.mk hr
          have HE2 := Sd.mk (HE1.out.trans hx)
          have HI2 := Sd.mk (box_ext HI1.out hx)
          clear hr hx hrun hen
          cases res
          · have NE := Sd.mk (O.out.bad2 (b := b) (b' := b') (n := n) (n' := n') (t := t) (t' := t') O'.out he HKS.out he0 HK0.out hq1 hq2 (fun h => absurd (HR.out.2 h) (by simp)))
            clear HR
            go_wp2_with fail
            go_ret2
            exact ⟨⟨false, rfl, by simp; exact NE.out⟩, HE2.out⟩
          · have HY := Sd.mk (HR.out.1 rfl)
            clear HR
            go_wp2_with fail
            go_roundg (leftN es (seen.push e.born))
            case measure => exact HN.out
            case rel =>
              refine ⟨seen.push e.born, rfl, HI2, HE2, ⟨fun x hx hb => ?_⟩⟩
              rcases Array.mem_push.1 hb with hb | hb
              · exact HA.out x hx hb
              · have : x = e := by
                  have hn := O.out.F.st.2.1
                  obtain ⟨i, hi, rfl⟩ := List.getElem_of_mem hx
                  obtain ⟨k, hk, rfl⟩ := List.getElem_of_mem he
                  by_cases e : i = k
                  · subst e; rfl
                  · exfalso
                    have hp := List.pairwise_iff_getElem.1 hn
                    rcases Nat.lt_or_gt_of_ne e with hl | hl
                    · exact hp i k (by simpa using hi) (by simpa using hk) hl (by simpa using hb)
                    · exact hp k i (by simpa using hk) (by simpa using hi) hl (by simpa using hb.symm)
                subst this
                exact ⟨e0, he0, by rw [HK0.out, HKS.out], fun _ _ => HY.out⟩
  · have hl2 : ((es.size : Int) != (es'.size : Int)) = true := by simp; omega
    go_enter Tryz.func143, Tryz.ntmps143
    go_wp2_with fail
    go_ret2
    exact ⟨⟨false, rfl, by simp; intro h; exact hlen (O.out.size O'.out h)⟩, Ext.refl _⟩

end Go.Proofs.YtgkjdgolffnagaaGreatDoor
