/- Parts of the proof of the statement that this folder hands in: lemmas and contracts (N). -/
import Derived.Test.YtcfgjmdfpnfkjaaGreatDoorM
import Derived.Test.YtcfgjmdfpnfkjaaGreatDoorG
import Derived.Laws.RangeAny
import Derived.Laws.IdiomStrings
set_option linter.unusedSimpArgs false
set_option linter.unusedVariables false
set_option linter.unusedSimpArgs false
namespace Go.Proofs.YtcfgjmdfpnfkjaaGreatDoor
open Go.RowKit
theorem putC : PutC := fun hS h kind val st hst htc hok => put_c hS h kind val st hst htc hok

theorem valid_le {c : Nat} (h : Utf8.valid (c : Int) = true) : c ≤ 1114111 := by
  unfold Utf8.valid at h; simp at h; omega
theorem decode_bd (s : ByteArray) (pos : Nat) : (Utf8.decode s pos).1 ≤ 1114111 := by
  have hb : ∀ k, (s.get! (pos + k)).toNat < 256 := fun k => (s.get! (pos + k)).toNat_lt
  have h0 := hb 0; have h1 := hb 1; have h2 := hb 2; have h3 := hb 3
  simp only [Utf8.decode]
  repeat' split
  all_goals simp_all [Utf8.runeError, Utf8.valid]
  all_goals omega
theorem runesFrom_all (s : ByteArray) : ∀ (f i : Nat) (acc : Array Value), (∀ j (h : j < acc.size), ∃ r : Int, acc[j] = .int .i32 r ∧ 0 ≤ r ∧ r ≤ 1114111) →
    ∀ j (h : j < (Conv.runesFrom s f i acc).size), ∃ r : Int, (Conv.runesFrom s f i acc)[j] = .int .i32 r ∧ 0 ≤ r ∧ r ≤ 1114111
  | 0, i, acc, h => by simpa [Conv.runesFrom] using h
  | f + 1, i, acc, h => by
    unfold Conv.runesFrom
    split
    · refine runesFrom_all s f _ _ fun j hj => ?_
      by_cases e : j < acc.size
      · rw [Array.getElem_push_lt e]; exact h j e
      · have : j = acc.size := by simp at hj; omega
        subst this
        rw [Array.getElem_push_eq]
        have := decode_bd s i
        exact ⟨_, rfl, Int.natCast_nonneg _, Int.ofNat_le.2 this⟩
    · exact h


/-- Some tokens, a bool, a bool. -/
def LexRes (w : World) (e : Ending) (w' : World) : Prop :=
  ∃ (tv : Value) (ok sr : Bool), e = .returned (.tuple #[tv, .bool ok, .bool sr]) ∧ Ext w w' ∧ ∃ l : List Tk, w'.ownsRow w.heap.size 67 6 tv l.length (l.flatMap Tk.cells)
set_option maxHeartbeats 8000000 in
set_option maxRecDepth 100000 in
theorem lex_c (s : ByteArray) (w : World) (hs : s.size ≤ 1048576) : Calls Tryz.prog 27 #[.string s] w (LexRes w) := by
  have hsz : (Conv.runesFrom s s.size 0 #[]).size ≤ s.size := by simpa using size_runesFrom s s.size 0 #[]
  have hall : ∀ j, j < (Conv.runesFrom s s.size 0 #[]).size → ∃ r : Int, (Conv.runesFrom s s.size 0 #[])[j]? = some (.int .i32 r) ∧ 0 ≤ r ∧ r ≤ 1114111 := fun j hj => by
    obtain ⟨r, h1, h2⟩ := runesFrom_all s s.size 0 #[] (by simp) j hj
    exact ⟨r, by rw [Array.getElem?_eq_getElem hj, h1], h2⟩
  have hconv := run_runes_of_string (P := Tryz.prog) w 9 99 21 s Tryz.underlying9 Tryz.underlying99 Tryz.underlying21 (by omega)
  have hgc := grownCap_ge w (Conv.runesFrom s s.size 0 #[]).size 0 21
  generalize hN : (Conv.runesFrom s s.size 0 #[]).size = N at *
  generalize grownCap w N 0 21 = cap at *
  generalize Conv.runesFrom s s.size 0 #[] = R at *
  have HA := Sd.mk hall
  have HN := Sd.mk hN
  clear hall hN
  have HS : Sd (LS w (w.heap.size + 2) (w.heap.size + 1) w.heap.size N cap) := ⟨⟨by omega, by omega, by omega, by omega, by omega, by omega, hgc⟩⟩
  go_enter Tryz.func27, Tryz.ntmps27
  go_wp2_with fail
  clear hconv
  go_loopg [] N (fun g wr => ∃ a tc, g + a = N ∧ tc ≤ a ∧ a ≤ N ∧ Sd (LA w (w.heap.size + 2) (w.heap.size + 1) w.heap.size N cap wr a tc))
  case atStart =>
    refine ⟨0, 0, by omega, by omega, by omega, ⟨.slice none 0 0, true, 0, 1, 0, ?_, ⟨R ++ Array.replicate (cap - N) (.int .i32 0), (box_keep (box_alloc w (.cells (R ++ Array.replicate (cap - N) (.int .i32 0)) 21 (0, 0))) _ : ((w.alloc (.cells (R ++ Array.replicate (cap - N) (.int .i32 0)) 21 (0, 0))).alloc _).heap[w.heap.size]? = _), fun i hi => ?_⟩, ⟨[], rfl, by simp, Or.inl ⟨rfl, rfl⟩⟩, by omega, by omega, by omega, by simp, ?_⟩⟩
    · exact (box_alloc2 w _ _ : ((w.alloc _).alloc _).heap[w.heap.size + 1]? = _)
    · obtain ⟨r, h1, h2⟩ := HA.out i hi
      exact ⟨r, by rw [Array.getElem?_append_left (by rw [HN.out]; exact hi)]; exact h1, h2⟩
    · exact (((Ext.refl w).alloc _).alloc _).drewN 1
  case round =>
    obtain ⟨a, tc, hg, htc, ha, HLA⟩ := hrel
    obtain ⟨tv, sure, seen, line, fr, hX⟩ := HLA.out
    have HX := Sd.mk hX
    have f := box_cell hX.cells
    clear hX HLA
    by_cases hlt : a < N
    · have hp' : decide (a < N) = true := by simpa using hlt
      go_wp2_with fail
      go_quiet (fail)
      go_wp2_with fail
      refine (token_c ⟨putC⟩ HS.out (HX.out.drew _) hlt htc).mono ?_
      rintro e w2 ⟨ok, a2, tc2, rfl, g1, g2, tv2, sure2, seen2, line2, fr2, hX2⟩
      have HX2 := Sd.mk hX2
      have G1 := Sd.mk g1
      clear hX2 g1 f
      have f := box_cell HX2.out.cells
      cases ok
      · go_wp2_with fail
        go_quiet (fail)
        go_wp2_with fail
        exact bodyPost_ret (v := .tuple #[.slice none 0 0, .bool false, .bool sure2]) (by simp [results, Tryz.results27, go_sem]) rfl ⟨_, _, _, rfl, HX2.out.ext.drewN _, [], by simp, Or.inl ⟨rfl, rfl⟩⟩
      · obtain ⟨g3, g4⟩ := G1.out rfl
        go_wp2_with fail
        go_roundg (N - a2)
        case measure => omega
        case rel => exact ⟨a2, tc2, by omega, by omega, g4, ⟨_, _, _, _, _, HX2.out⟩⟩
    · have hp' : decide (a < N) = false := by simpa using hlt
      go_wp2_with fail
      go_quiet (fail)
      go_wp2_with fail
      go_quiet (fail)
      go_wp2_with fail
      obtain ⟨l, rfl, l2⟩ := HX.out.toks
      exact bodyPost_ret (v := .tuple #[tv, .bool true, .bool sure]) (by simp [results, Tryz.results27, go_sem]) rfl ⟨_, _, _, rfl, (HX.out.ext.drewN _).drewN _, l, owns_mono l2 (by omega)⟩

set_option maxHeartbeats 8000000 in
set_option maxRecDepth 100000 in
theorem isNumber_c (s : ByteArray) (fl : Bool) (w : World) (hs : s.size ≤ 1048576) : Calls Tryz.prog 11 #[.string s, .bool fl] w fun e w' => (∃ b, e = .returned (.bool b) ∧ (b = true → NumS s)) ∧ Ext w w' := by
  go_enter Tryz.func11, Tryz.ntmps11
  go_wp2_with fail
  refine (lex_c s _ hs).mono ?_
  rintro e w1 ⟨tv, ok, sr, rfl, he, l, hl⟩
  have HE := Sd.mk he
  clear he
  cases ok
  · go_wp2_with fail
    go_ret
    exact ⟨⟨_, rfl, fun h => by cases h⟩, HE.out⟩
  · obtain ⟨hl1, ⟨rfl, hl2⟩ | ⟨g, cap, cur, rfl, h2, h3, h4, h5, h6, h7⟩⟩ := hl
    · have hl0 : ((l.length : Int) != 1) = true := by rw [hl2]; rfl
      rw [hl2] at *
      go_wp2_with fail
      go_ret
      exact ⟨⟨_, rfl, fun h => by cases h⟩, HE.out⟩
    · by_cases h1 : l.length = 1
      · obtain ⟨t, rfl⟩ : ∃ t, l = [t] := List.length_eq_one_iff.1 h1
        have f := box_cell h3
        have c0 : cur[0]? = some (.int .i64 t.kind) := by
          have := congrArg (·[0]?) h7
          simpa [Tk.cells] using this
        have c1 : cur[1]? = some (.string t.val) := by
          have := congrArg (·[1]?) h7
          simpa [Tk.cells] using this
        have HT := Sd.mk t.ok
        clear h1 h2 h3 h4 h5 h6 h7 hl1
        generalize t.kind = kd at c0 HT
        generalize t.val = vl at c1 HT
        by_cases hv : vl = s
        · subst hv
          cases q16 : (kd == 16)
          · cases q17 : (kd == 17)
            · cases fl
              all_goals
                go_wp2_with fail
                all_goals first
                  | (go_ret; exact ⟨⟨false, rfl, fun h => by cases h⟩, HE.out⟩)
            · have hn := Sd.mk (HT.out (Or.inr (eq_of_beq q17)))
              clear HT
              cases fl
              all_goals
                go_wp2_with fail
                all_goals first
                  | (go_ret; exact ⟨⟨_, rfl, fun _ => hn.out⟩, HE.out⟩)
          · have hn := Sd.mk (HT.out (Or.inl (eq_of_beq q16)))
            clear HT
            cases fl
            all_goals
              go_wp2_with fail
              all_goals first
                | (go_ret; exact ⟨⟨_, rfl, fun _ => hn.out⟩, HE.out⟩)
        · have hne : (!vl.toList == s.toList) = true := by
            simp only [Bool.not_eq_true', beq_eq_false_iff_ne, ne_eq]
            intro e
            rw [ByteArray.toList_eq, ByteArray.toList_eq] at e
            exact hv (ByteArray.ext (Array.toList_inj.1 e))
          clear HT hv
          go_wp2_with fail
          all_goals go_ret
          all_goals exact ⟨⟨false, rfl, fun h => by cases h⟩, HE.out⟩
      · have hl0 : ((l.length : Int) != 1) = true := by simp; omega
        clear h2 h3 h4 h5 h6 h7 hl1
        go_wp2_with fail
        go_ret
        exact ⟨⟨_, rfl, fun h => by cases h⟩, HE.out⟩

end Go.Proofs.YtcfgjmdfpnfkjaaGreatDoor
