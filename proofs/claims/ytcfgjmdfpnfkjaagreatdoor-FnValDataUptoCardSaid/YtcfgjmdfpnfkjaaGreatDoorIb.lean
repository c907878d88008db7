/- Parts of the proof of the statement that this folder hands in: lemmas and contracts (Ib). -/
import Derived.Test.YtcfgjmdfpnfkjaaGreatDoorO
set_option linter.unusedSimpArgs false
set_option linter.unusedVariables false
set_option linter.unusedSimpArgs false
namespace Go.Proofs.YtcfgjmdfpnfkjaaGreatDoor
open Go.RowKit

/-- The runes from place a to a' may stand in a number. -/
def NumTo (w : World) (tb a a' : Nat) : Prop := ∀ i, a ≤ i → i < a' → ∃ r : Int, w.cell? ⟨tb, i, none⟩ = some (.int .i32 r) ∧ 0 ≤ r ∧ nmC r.toNat = true
theorem NumTo.nil (w : World) (tb a : Nat) : NumTo w tb a a := fun i h1 h2 => absurd h1 (by omega)
theorem NumTo.snoc {w : World} {tb a a' : Nat} (h : NumTo w tb a a') {r : Int} (hc : w.cell? ⟨tb, a', none⟩ = some (.int .i32 r)) (h0 : 0 ≤ r) (hr : nmC r.toNat = true) : NumTo w tb a (a' + 1) := fun i h1 h2 => by
  by_cases e : i = a'
  · subst e; exact ⟨r, hc, h0, hr⟩
  · exact h i h1 (by omega)
theorem NumTo.join {w : World} {tb a b c : Nat} (h : NumTo w tb a b) (k : NumTo w tb b c) : NumTo w tb a c := fun i h1 h2 => by
  by_cases e : i < b
  · exact h i h1 e
  · exact k i (by omega) h2
theorem Only.rune {b tb N : Nat} {w w' : World} (h : Only b w w') (hr : Runes w tb N) (hne : b ≠ tb) (i : Nat) : w'.cell? ⟨tb, i, none⟩ = w.cell? ⟨tb, i, none⟩ := by
  obtain ⟨cur, h1, -⟩ := hr
  have hlt := (Array.getElem?_eq_some_iff.1 h1).1
  have e := h.2 tb hlt (fun e => hne e.symm)
  simp only [World.cell?, e]
theorem NumTo.of {b tb N a a' : Nat} {w w' : World} (k : NumTo w' tb a a') (h : Only b w w') (hr : Runes w tb N) (hne : b ≠ tb) : NumTo w tb a a' := fun i h1 h2 => by
  obtain ⟨r, e, x⟩ := k i h1 h2
  exact ⟨r, by rw [← h.rune hr hne]; exact e, x⟩
theorem NumTo.to {b tb N a a' : Nat} {w w' : World} (k : NumTo w tb a a') (h : Only b w w') (hr : Runes w tb N) (hne : b ≠ tb) : NumTo w' tb a a' := fun i h1 h2 => by
  obtain ⟨r, e, x⟩ := k i h1 h2
  exact ⟨r, by rw [h.rune hr hne]; exact e, x⟩
theorem dg_nm {r : Int} (h : dgB r = true) : 0 ≤ r ∧ nmC r.toNat = true := by
  simp [dgB] at h
  refine ⟨by omega, ?_⟩
  simp [nmC]; omega

theorem encode_small {r : Int} (h0 : 0 ≤ r) (h : r < 128) : Utf8.encode r = ⟨#[UInt8.ofNat r.toNat]⟩ := by
  have hv : Utf8.valid r = true := by unfold Utf8.valid; simp; omega
  unfold Utf8.encode
  simp only [hv, if_true]
  rw [if_pos (by omega)]
theorem nm_lt {c : Nat} (h : nmC c = true) : c < 128 := by simp [nmC] at h; omega
theorem runesBytes_nm : ∀ (zs : List Int) (r : ByteArray), NumS r → (∀ z ∈ zs, 0 ≤ z ∧ nmC z.toNat = true) → NumS (zs.foldl (fun r n => r ++ Utf8.encode n) r)
  | [], r, h, _ => h
  | z :: zs, r, h, hz => by
    obtain ⟨h0, h1⟩ := hz z (by simp)
    refine runesBytes_nm zs _ ?_ fun y hy => hz y (by simp [hy])
    have h2 := nm_lt h1
    show NumS (r ++ Utf8.encode z)
    rw [encode_small h0 (by omega)]
    intro c hc
    rw [ByteArray.data_append, Array.toList_append, List.mem_append] at hc
    rcases hc with hc | hc
    · exact h c hc
    · simp at hc
      subst hc
      rw [UInt8.toNat_ofNat_of_lt' (Nat.lt_of_lt_of_le h2 (by decide))]
      exact h1

/-- A piece of the runes, such as a number has, as a string. -/
theorem piece_num {w : World} {tb N : Nat} (h : Runes w tb N) {st en c : Nat} (h1 : st ≤ en) (h2 : en ≤ N) (hn : NumTo w tb st en) : ∃ T : ByteArray, T.size ≤ 4 * N ∧ NumS T ∧
    ∀ W : World, W.heap = w.heap → (convert 99 9 (.slice (some ⟨tb, st, none⟩) (en - st) c)).run Tryz.prog W = .ok (.string T) W := by
  obtain ⟨cur, r1, r2⟩ := h
  let zs : List Int := (List.range (en - st)).map (fun j => match cur[st + j]? with | some (.int .i32 r) => r | _ => 0)
  have hl : zs.length = en - st := by simp [zs]
  refine ⟨runesBytes (zs.take (en - st)), Nat.le_trans (runesBytes_size_le _) (by simp [hl]; omega), ?_, fun W hW => run_convert_runes W 99 9 21 ⟨tb, st, none⟩ (en - st) c zs (by omega) Tryz.underlying99 Tryz.underlying21 Tryz.underlying9 ?_⟩
  · refine runesBytes_nm _ _ (fun c hc => by simp at hc) fun z hz => ?_
    have hz' := List.mem_of_mem_take hz
    simp only [zs, List.mem_map, List.mem_range] at hz'
    obtain ⟨j, hj, rfl⟩ := hz'
    obtain ⟨r, e, x⟩ := hn (st + j) (by omega) (by omega)
    rw [box_cell r1] at e
    rw [e]
    exact x
  intro j hj
  obtain ⟨r, e, _⟩ := r2 (st + j) (by omega)
  have ea : (⟨tb, st, none⟩ : Addr).add j = ⟨tb, st + j, none⟩ := by unfold Addr.add; split <;> simp_all
  have hc : W.cell? ⟨tb, st + j, none⟩ = cur[st + j]? := by
    have : W.heap[tb]? = some (.cells cur 21 (0, 0)) := by rw [hW]; exact r1
    exact box_cell this _
  rw [ea, hc, e]
  simp [zs, List.getD, hl ▸ hj, e, List.getElem?_range (show j < en - st by omega)]

def PeekNum (tb N p : Nat) (w : World) (e : Ending) (w' : World) : Prop := ∃ (r : Int) (n : Nat), e = .returned (.int .i32 r) ∧ 0 ≤ r ∧ r ≤ 1114111 ∧ (1 ≤ r → p < N ∧ w.cell? ⟨tb, p, none⟩ = some (.int .i32 r)) ∧ w' = w.drewN n
/-- A bool; where it is true the lexer stands within the text, behind digits. -/
def WentNum (W0 : World) (B1 b tb N cap a tc : Nat) (w : World) (e : Ending) (w' : World) : Prop :=
  ∃ (ok : Bool) (a' : Nat), e = .returned (.bool ok) ∧ a ≤ a' ∧ (ok = true → a < a' ∧ a' ≤ N) ∧ a' ≤ N + 8 ∧ LA W0 B1 b tb N cap w' a' tc ∧ Only b w w' ∧ NumTo w tb a a'

section
variable {W0 : World} {B1 b tb N cap : Nat} {w : World} {a tc : Nat} {tv : Value} {sure : Bool} {seen : Nat} {line fr : Int}
set_option maxHeartbeats 1000000 in
theorem peek_num (hS : LS W0 B1 b tb N cap) (h : LX W0 B1 b tb N cap w a tc tv sure seen line fr) (on : Nat) (hon : on ≤ 3) :
    Calls Tryz.prog 53 #[.pointer (some ⟨b, 0, none⟩), .int .i64 on] w (PeekNum tb N (a + on) w) := by
  have f := box_cell h.cells
  have haN := h.aN
  have hN := hS.n8
  by_cases hp : a + on < N
  · obtain ⟨r, er, hr0, hr1⟩ := rune_at h.runes hp
    have hw1 : IntKind.i64.wrap ((a : Int) + (on : Int)) = ((a + on : Nat) : Int) := by rw [IntWalk.i64_in _ (by omega)]; omega
    have hp' : decide (a + on < N) = true := by simpa using hp
    have ER := Sd.mk er
    clear h hS
    go_enter Tryz.func53, Tryz.ntmps53
    go_wp2_with fail
    go_quiet (fail)
    go_wp2_with fail
    go_quiet (fail)
    go_wp2_with fail
    go_ret
    exact ⟨r, _, rfl, hr0, hr1, fun _ => ⟨hp, ER.out⟩, World.drewN_drewN _ _ _⟩
  · have hw1 : IntKind.i64.wrap ((a : Int) + (on : Int)) = ((a + on : Nat) : Int) := by rw [IntWalk.i64_in _ (by omega)]; omega
    have hp' : decide (a + on < N) = false := by simpa using hp
    clear h hS
    go_enter Tryz.func53, Tryz.ntmps53
    go_wp2_with fail
    go_quiet (fail)
    go_wp2_with fail
    go_ret
    exact ⟨0, _, rfl, by omega, by omega, fun h => by omega, rfl⟩

set_option maxHeartbeats 4000000 in
set_option maxRecDepth 100000 in
theorem digits_num (hS : LS W0 B1 b tb N cap) (h : LX W0 B1 b tb N cap w a tc tv sure seen line fr) (ha : a ≤ N) :
    Calls Tryz.prog 83 #[.pointer (some ⟨b, 0, none⟩)] w (WentNum W0 B1 b tb N cap a tc w) := by
  have HS := Sd.mk hS
  have HX0 := Sd.mk h
  have hN := hS.n8
  have f := box_cell h.cells
  have HR := Sd.mk h.runes
  have hne := Sd.mk hS.ne
  clear h hS
  go_enter Tryz.func83, Tryz.ntmps83
  go_wp2_with fail
  clear f
  go_loopg [] (N - a) (fun g wr => ∃ (a' : Nat), g + a' = N ∧ a ≤ a' ∧ Sd (LX W0 B1 b tb N cap wr a' tc tv sure seen line fr) ∧ Sd (Only b w wr) ∧ Sd (NumTo w tb a a'))
  case atStart => exact ⟨a, by omega, by omega, HX0, ⟨Only.refl _ _⟩, ⟨NumTo.nil _ _ _⟩⟩
  case round =>
    obtain ⟨a', hg, ha', HX, HO, HM⟩ := hrel
    clear HX0
    have f := box_cell HX.out.cells
    have fz := box_frozen HX.out.cells
    go_wp2_with fail
    refine (peek_num HS.out HX.out 0 (by omega)).mono ?_
    rintro e w1 ⟨r, n, rfl, hr0, hr1, hrN, rfl⟩
    have HRN := Sd.mk hrN
    clear hrN
    go_wp2_with fail
    refine (isDigit_x _ _).mono ?_
    rintro e w2 ⟨rfl, rfl⟩
    cases q : dgB r
    · go_wp2_with fail
      go_ret
      refine ⟨_, a', rfl, ha', fun h => ?_, by omega, ⟨tv, sure, seen, line, fr, HX.out.drew _⟩, HO.out.drew _, HM.out⟩
      simp at h
      omega
    · have hd := dg_nm q
      have h1 : 1 ≤ r := by simp [dgB] at q; omega
      obtain ⟨hlt, hce⟩ := HRN.out h1
      have HM2 : Sd (NumTo w tb a (a' + 1)) := ⟨HM.out.snoc (by rw [← HO.out.rune HR.out hne.out]; exact hce) hd.1 hd.2⟩
      clear hce HM hd h1
      go_wp2_with fail
      go_roundg (N - (a' + 1))
      case measure => omega
      case rel => exact ⟨a' + 1, by omega, by omega, ⟨(HX.out.drew _).set HS.out 1 _ rfl HX.out.seenN (by omega)⟩, ⟨(HO.out.drew _).set 1 _⟩, HM2⟩

theorem NumTo.one {wx : World} {p : Nat} (h : NumTo w tb a p) (ho : Only b w wx) (hr : Runes w tb N) (hne : b ≠ tb) {r : Int} (hp : 1 ≤ r → p < N ∧ wx.cell? ⟨tb, p, none⟩ = some (.int .i32 r)) {k : Int} (hq : (r == k) = true) (h1 : 1 ≤ k)
    (hk : nmC k.toNat = true) : p < N ∧ NumTo w tb a (p + 1) := by
  have e := eq_of_beq hq
  subst e
  obtain ⟨g1, g2⟩ := hp h1
  exact ⟨g1, h.snoc (by rw [← ho.rune hr hne]; exact g2) (by omega) hk⟩

set_option maxHeartbeats 8000000 in
set_option maxRecDepth 100000 in
theorem number_c (HP : Sd PutC) (hS : LS W0 B1 b tb N cap) (h : LX W0 B1 b tb N cap w a tc tv sure seen line fr) (ha : a < N) (htc : tc < N) :
    Calls Tryz.prog 54 #[.pointer (some ⟨b, 0, none⟩)] w (Tok W0 B1 b tb N cap a tc) := by
  have HS := Sd.mk hS
  have HX := Sd.mk h
  have HR := Sd.mk h.runes
  have HNE := Sd.mk hS.ne
  have hN := hS.n8
  have hnc := hS.nc
  have f := box_cell h.cells
  have fz := box_frozen h.cells
  clear h hS
  go_enter Tryz.func54, Tryz.ntmps54
  go_wp2_with fail
  refine (peek_num HS.out HX.out 0 (by omega)).mono ?_
  rintro e w1 ⟨r, n, rfl, hr0, hr1, hrN, rfl⟩
  have HRN := Sd.mk hrN
  clear hrN
  go_upto_if 11 with (fail)
  go_cut [] (fun wx => ∃ a', a ≤ a' ∧ a' ≤ N ∧ Sd (LX W0 B1 b tb N cap wx a' tc tv sure seen line fr) ∧ Sd (Only b w wx) ∧ Sd (NumTo w tb a a'))
  case first =>
    cases q : (r == 45)
    · go_wp2_with fail
      go_meet
      exact ⟨a, by omega, by omega, ⟨HX.out.drew _⟩, ⟨(Only.refl b w).drew _⟩, ⟨NumTo.nil _ _ _⟩⟩
    · have hM := Sd.mk ((NumTo.nil w tb a).one (Only.refl b w) HR.out HNE.out HRN.out q (by omega) rfl).2
      go_wp2_with fail
      go_meet
      exact ⟨a + 1, by omega, by omega, ⟨(HX.out.drew _).set HS.out 1 _ rfl HX.out.seenN (by omega)⟩, ⟨((Only.refl b w).drew _).set 1 _⟩, hM⟩
  case rest =>
    obtain ⟨a1, ha1, ha1N, HX1, HO1, HM1⟩ := hcut
    clear HX f fz HRN
    go_upto_region 4 with (fail)
    go_cut [31] (fun v31 wx => ∃ (q : Bool) (a2 : Nat), v31 = .bool q ∧ Sd (q = false → a1 < a2 ∧ a2 ≤ N) ∧ a1 ≤ a2 ∧ a2 ≤ N + 8 ∧ Sd (LA W0 B1 b tb N cap wx a2 tc) ∧ Sd (Only b w wx) ∧ Sd (NumTo w tb a a2))
    case first =>
      go_wp2_with fail
      refine (peek_num HS.out HX1.out 0 (by omega)).mono ?_
      rintro e w2 ⟨r2, n2, rfl, hr02, hr12, hrN2, rfl⟩
      have HRN2 := Sd.mk hrN2
      clear hrN2
      cases q48 : (r2 == 48)
      · go_wp2_with fail
        refine (digits_num HS.out (HX1.out.drew _) ha1N).mono ?_
        rintro e w3 ⟨ok, a2, rfl, g1, g2, g3, g4, g5, g6⟩
        have G4 := Sd.mk g4
        have G2 := Sd.mk g2
        have G5 := Sd.mk ((HO1.out.drew n2).trans g5)
        have G6 := Sd.mk (HM1.out.join (g6.of (HO1.out.drew n2) HR.out HNE.out))
        clear g4 g2 g5 g6
        go_wp2_with fail
        go_meet
        exact ⟨_, a2, rfl, ⟨fun h => G2.out (by simpa using h)⟩, g1, g3, G4, G5, G6⟩
      · go_wp2_with fail
        refine (peek_num HS.out (HX1.out.drew _) 1 (by omega)).mono ?_
        rintro e w3 ⟨r3, n3, rfl, hr03, hr13, hrN3, rfl⟩
        have HRN3 := Sd.mk hrN3
        clear hrN3
        go_wp2_with fail
        refine (isDigit_c _ _).mono ?_
        rintro e w4 ⟨bq, rfl, hp, rfl⟩
        clear hp
        cases bq
        · go_wp2_with fail
          refine (digits_num HS.out (HX1.out.drew (n2 + n3)) ha1N).mono ?_
          rintro e w3 ⟨ok, a2, rfl, g1, g2, g3, g4, g5, g6⟩
          have G4 := Sd.mk g4
          have G2 := Sd.mk g2
          have G5 := Sd.mk ((HO1.out.drew (n2 + n3)).trans g5)
          have G6 := Sd.mk (HM1.out.join (g6.of (HO1.out.drew (n2 + n3)) HR.out HNE.out))
          clear g4 g2 g5 g6
          go_wp2_with fail
          go_meet
          exact ⟨_, a2, rfl, ⟨fun h => G2.out (by simpa using h)⟩, g1, g3, G4, G5, G6⟩
        · go_wp2_with fail
          go_meet
          exact ⟨true, a1, rfl, ⟨fun h => by cases h⟩, by omega, by omega, ⟨_, _, _, _, _, HX1.out.drew _⟩, ⟨HO1.out.drew _⟩, HM1⟩
    case rest =>
      obtain ⟨q, a2, rfl, HQ, ha2, ha2N, HA, HO2, HM2⟩ := hcut
      clear HX1 HO1 HM1
      cases q
      case true =>
        go_wp2_with fail
        go_ret
        exact ⟨false, a2, tc, rfl, (fun h => by cases h), by omega, HA.out⟩
      case false =>
        obtain ⟨h12, h2N⟩ := HQ.out rfl
        obtain ⟨tv2, sure2, seen2, line2, fr2, hX2⟩ := HA.out
        have HX2 := Sd.mk hX2
        have f := box_cell hX2.cells
        have fz := box_frozen hX2.cells
        clear hX2 HA HQ
        go_wp2_with fail
        refine (peek_num HS.out HX2.out 0 (by omega)).mono ?_
        rintro e w5 ⟨r5, n5, rfl, hr05, hr15, hrN5, rfl⟩
        have HRN5 := Sd.mk hrN5
        clear hrN5
        go_upto_if 34 with (fail)
        go_cut [4] (fun v4 wx => ∃ (kd : Int) (a3 : Nat), v4 = .int .i64 kd ∧ a < a3 ∧ a3 ≤ N ∧ Sd (LA W0 B1 b tb N cap wx a3 tc) ∧ Sd (Only b w wx) ∧ Sd (NumTo w tb a a3))
        case first =>
          cases q46 : (r5 == 46)
          · go_wp2_with fail
            go_meet
            exact ⟨16, a2, rfl, by omega, by omega, ⟨_, _, _, _, _, HX2.out.drew _⟩, ⟨HO2.out.drew _⟩, HM2⟩
          · have hone := HM2.out.one HO2.out HR.out HNE.out HRN5.out q46 (by omega) rfl
            have hlt : a2 + 1 ≤ N := hone.1
            have HM3 := Sd.mk hone.2
            clear hone
            have HX3 := Sd.mk ((HX2.out.drew n5).set HS.out 1 (.int .i64 ((a2 : Int) + 1)) (a' := a2 + 1) rfl HX2.out.seenN (by omega))
            have HO3 := Sd.mk ((HO2.out.drew n5).set 1 (.int .i64 ((a2 : Int) + 1)))
            go_wp2_with fail
            refine (digits_num HS.out HX3.out hlt).mono ?_
            rintro e w6 ⟨ok, a3, rfl, g1, g2, g3, g4, g5, g6⟩
            have G4 := Sd.mk g4
            have G2 := Sd.mk g2
            have G5 := Sd.mk (HO3.out.trans g5)
            have G6 := Sd.mk (HM3.out.join (g6.of HO3.out HR.out HNE.out))
            clear g4 g2 g5 g6
            cases ok
            · go_wp2_with fail
              go_ret
              exact ⟨false, a3, tc, rfl, (fun h => by cases h), by omega, G4.out⟩
            · obtain ⟨g5, g6⟩ := G2.out rfl
              go_wp2_with fail
              go_meet
              exact ⟨17, a3, rfl, by omega, g6, G4, G5, G6⟩
        case rest =>
          obtain ⟨kd, a3, rfl, ha3, ha3N, HA3, HO3, HM3⟩ := hcut
          obtain ⟨tv3, sure3, seen3, line3, fr3, hX3⟩ := HA3.out
          have HX3 := Sd.mk hX3
          clear hX3 HA3 HX2 f fz HRN5 h12 h2N HO2 HM2
          go_upto_region 11 with (fail)
          go_cut [52] (fun v52 wx => ∃ q : Bool, v52 = .bool q ∧ Sd (q = true → a3 < N ∧ NumTo w tb a (a3 + 1)) ∧ Sd (LX W0 B1 b tb N cap wx a3 tc tv3 sure3 seen3 line3 fr3) ∧ Sd (Only b w wx))
          case first =>
            go_wp2_with fail
            refine (peek_num HS.out HX3.out 0 (by omega)).mono ?_
            rintro e w7 ⟨r7, n7, rfl, hr07, hr17, hrN7, rfl⟩
            have HRN7 := Sd.mk hrN7
            clear hrN7
            cases q1 : (r7 == 101)
            · go_wp2_with fail
              refine (peek_num HS.out (HX3.out.drew n7) 0 (by omega)).mono ?_
              rintro e w8 ⟨r8, n8, rfl, hr08, hr18, hrN8, rfl⟩
              have HRN8 := Sd.mk hrN8
              clear hrN8
              cases q2 : (r8 == 69)
              · go_wp2_with fail
                go_meet
                exact ⟨false, rfl, ⟨fun h => by cases h⟩, ⟨HX3.out.drew _⟩, ⟨HO3.out.drew _⟩⟩
              · have hone := Sd.mk (HM3.out.one (HO3.out.drew n7) HR.out HNE.out HRN8.out q2 (by omega) rfl)
                go_wp2_with fail
                go_meet
                exact ⟨true, rfl, ⟨fun _ => hone.out⟩, ⟨HX3.out.drew _⟩, ⟨HO3.out.drew _⟩⟩
            · have hone := Sd.mk (HM3.out.one HO3.out HR.out HNE.out HRN7.out q1 (by omega) rfl)
              go_wp2_with fail
              go_meet
              exact ⟨true, rfl, ⟨fun _ => hone.out⟩, ⟨HX3.out.drew _⟩, ⟨HO3.out.drew _⟩⟩
          case rest =>
            obtain ⟨q, rfl, HQ, HX4, HO4⟩ := hcut
            clear HX3 HO3
            have f := box_cell HX4.out.cells
            have fz := box_frozen HX4.out.cells
            go_upto_if 52 with (fail)
            go_cut [4] (fun v4 wx => ∃ (kd : Int) (a5 : Nat), v4 = .int .i64 kd ∧ a < a5 ∧ a5 ≤ N ∧ Sd (LA W0 B1 b tb N cap wx a5 tc) ∧ Sd (Only b w wx) ∧ Sd (NumTo w tb a a5))
            case first =>
              cases q
              · go_wp2_with fail
                go_meet
                exact ⟨kd, a3, rfl, ha3, ha3N, ⟨_, _, _, _, _, HX4.out⟩, HO4, HM3⟩
              · obtain ⟨hlt, hm4⟩ := HQ.out rfl
                have HM4 := Sd.mk hm4
                clear hm4 HM3
                have HX5 := Sd.mk (HX4.out.set HS.out 1 (.int .i64 ((a3 : Int) + 1)) (a' := a3 + 1) rfl HX4.out.seenN (by omega))
                have HO5 := Sd.mk (HO4.out.set 1 (.int .i64 ((a3 : Int) + 1)))
                go_upto_region 14 with (fail)
                clear f fz HO4
                generalize wc.setCell ⟨b, 1, none⟩ (.int .i64 ((a3 : Int) + 1)) = wy at HX5 HO5
                have f := box_cell HX5.out.cells
                have fz := box_frozen HX5.out.cells
                go_cut [67] (fun v67 wx => ∃ q : Bool, v67 = .bool q ∧ Sd (q = true → a3 + 1 < N ∧ NumTo w tb a (a3 + 2)) ∧ Sd (LX W0 B1 b tb N cap wx (a3 + 1) tc tv3 sure3 seen3 line3 fr3) ∧ Sd (Only b w wx))
                case first =>
                  go_wp2_with fail
                  refine (peek_num HS.out HX5.out 0 (by omega)).mono ?_
                  rintro e w9 ⟨r9, n9, rfl, hr09, hr19, hrN9, rfl⟩
                  have HRN9 := Sd.mk hrN9
                  clear hrN9
                  cases q1 : (r9 == 43)
                  · go_wp2_with fail
                    refine (peek_num HS.out (HX5.out.drew n9) 0 (by omega)).mono ?_
                    rintro e w10 ⟨r10, n10, rfl, hr010, hr110, hrN10, rfl⟩
                    have HRN10 := Sd.mk hrN10
                    clear hrN10
                    cases q2 : (r10 == 45)
                    · go_wp2_with fail
                      go_meet
                      exact ⟨false, rfl, ⟨fun h => by cases h⟩, ⟨HX5.out.drew _⟩, ⟨HO5.out.drew _⟩⟩
                    · have hone := Sd.mk (HM4.out.one (HO5.out.drew n9) HR.out HNE.out HRN10.out q2 (by omega) rfl)
                      go_wp2_with fail
                      go_meet
                      exact ⟨true, rfl, ⟨fun _ => hone.out⟩, ⟨HX5.out.drew _⟩, ⟨HO5.out.drew _⟩⟩
                  · have hone := Sd.mk (HM4.out.one HO5.out HR.out HNE.out HRN9.out q1 (by omega) rfl)
                    go_wp2_with fail
                    go_meet
                    exact ⟨true, rfl, ⟨fun _ => hone.out⟩, ⟨HX5.out.drew _⟩, ⟨HO5.out.drew _⟩⟩
                case rest =>
                  obtain ⟨q, rfl, HQ6, HX6, HO6⟩ := hcut
                  clear HX5 f fz HQ HO5
                  have f := box_cell HX6.out.cells
                  have fz := box_frozen HX6.out.cells
                  go_upto_if 67 with (fail)
                  go_cut [] (fun wx => ∃ a6, a < a6 ∧ a6 ≤ N ∧ Sd (LX W0 B1 b tb N cap wx a6 tc tv3 sure3 seen3 line3 fr3) ∧ Sd (Only b w wx) ∧ Sd (NumTo w tb a a6))
                  case first =>
                    cases q
                    · go_wp2_with fail
                      go_meet
                      exact ⟨a3 + 1, by omega, by omega, HX6, HO6, HM4⟩
                    · obtain ⟨hlt2, hm6⟩ := HQ6.out rfl
                      have HM6 := Sd.mk hm6
                      clear hm6
                      go_wp2_with fail
                      go_meet
                      exact ⟨a3 + 2, by omega, by omega, ⟨HX6.out.set HS.out 1 _ rfl HX6.out.seenN (by omega)⟩, ⟨HO6.out.set 1 _⟩, HM6⟩
                  case rest =>
                    obtain ⟨a6, ha6, ha6N, HX7, HO7, HM7⟩ := hcut
                    clear HX6 f fz HQ6 HO6 HM4
                    go_wp2_with fail
                    refine (digits_num HS.out HX7.out ha6N).mono ?_
                    rintro e w6 ⟨ok, a7, rfl, g1, g2, g3, g4, g5, g6⟩
                    have G4 := Sd.mk g4
                    have G2 := Sd.mk g2
                    have G5 := Sd.mk (HO7.out.trans g5)
                    have G6 := Sd.mk (HM7.out.join (g6.of HO7.out HR.out HNE.out))
                    clear g4 g2 g5 g6
                    cases ok
                    · go_wp2_with fail
                      go_ret
                      exact ⟨false, a7, tc, rfl, (fun h => by cases h), by omega, G4.out⟩
                    · obtain ⟨g5, g6⟩ := G2.out rfl
                      go_wp2_with fail
                      go_meet
                      exact ⟨17, a7, rfl, by omega, g6, G4, G5, G6⟩
            case rest =>
              obtain ⟨kd5, a5, rfl, ha5, ha5N, HA5, HO5, HM5⟩ := hcut
              obtain ⟨tv5, sure5, seen5, line5, fr5, hX5⟩ := HA5.out
              have HX5 := Sd.mk hX5
              clear hX5 HA5 HX4 f fz HQ HO4 HM3
              go_upto_region 18 with (fail)
              go_cut [85] (fun v85 wx => ∃ q : Bool, v85 = .bool q ∧ Sd (LX W0 B1 b tb N cap wx a5 tc tv5 sure5 seen5 line5 fr5) ∧ Sd (Only b w wx))
              case first =>
                go_wp2_with fail
                refine (peek_num HS.out HX5.out 0 (by omega)).mono ?_
                rintro e w11 ⟨r11, n11, rfl, hr011, hr111, hrN11, rfl⟩
                have HRN11 := Sd.mk hrN11
                clear hrN11
                go_wp2_with fail
                refine (isStart_c _ _).mono ?_
                rintro e w4 ⟨bq, rfl, hp, rfl⟩
                clear hp
                cases bq
                · go_wp2_with fail
                  refine (peek_num HS.out (HX5.out.drew _) 0 (by omega)).mono ?_
                  rintro e w12 ⟨r12, n12, rfl, hr012, hr112, hrN12, rfl⟩
                  have HRN12 := Sd.mk hrN12
                  clear hrN12
                  go_wp2_with fail
                  all_goals (go_meet; exact ⟨_, rfl, ⟨HX5.out.drew _⟩, ⟨HO5.out.drew _⟩⟩)
                · go_wp2_with fail
                  go_meet
                  exact ⟨true, rfl, ⟨HX5.out.drew _⟩, ⟨HO5.out.drew _⟩⟩
              case rest =>
                obtain ⟨q, rfl, HX6, HO6⟩ := hcut
                clear HX5 HO5
                have f := box_cell HX6.out.cells
                have fz := box_frozen HX6.out.cells
                go_upto_if 85 with (fail)
                go_cut [] (fun wx => ∃ sure6, Sd (LX W0 B1 b tb N cap wx a5 tc tv5 sure6 seen5 line5 fr5) ∧ Sd (Only b w wx))
                case first =>
                  cases q
                  · go_wp2_with fail
                    go_meet
                    exact ⟨_, HX6, HO6⟩
                  · go_wp2_with fail
                    go_meet
                    exact ⟨false, ⟨HX6.out.set HS.out 3 _ rfl HX6.out.seenN (by omega)⟩, ⟨HO6.out.set 3 _⟩⟩
                case rest =>
                  obtain ⟨sure6, HX7, HO7⟩ := hcut
                  clear HX6 f fz HO6
                  have f := box_cell HX7.out.cells
                  have fz := box_frozen HX7.out.cells
                  obtain ⟨T, hT, hTn, hconv⟩ := piece_num HX7.out.runes (st := a) (en := a5) (c := cap - a) (by omega) ha5N (HM5.out.to HO7.out HR.out HNE.out)
                  have HTN := Sd.mk hTn
                  clear hTn HM5
                  have hcv : ∀ k, (convert 99 9 (.slice (some ⟨tb, a, none⟩) (a5 - a) (cap - a))).run Tryz.prog (wc.drewN k) = .ok (.string T) (wc.drewN k) := fun k => hconv _ rfl
                  have hcv0 : (convert 99 9 (.slice (some ⟨tb, a, none⟩) (a5 - a) (cap - a))).run Tryz.prog wc.drew = .ok (.string T) wc.drew := hconv _ rfl
                  have hcap : a < cap := by omega
                  have hca : ¬ cap = a := by omega
                  have hle : a ≤ a5 := by omega
                  have hle2 : a5 ≤ cap := by omega
                  clear hconv
                  go_wp2_with fail
                  go_still_tail 14, (by kernel_rfl)
                  change wpList _ _ _ _ _ wc.drew
                  go_wp2_with (go_at_call 51; refine (HP.out HS.out (HX7.out.drew 1) kd5 T a (by omega) htc (fun _ => HTN.out)).mono ?_; rintro e w9 ⟨rfl, hLA⟩; have HLA := Sd.mk hLA; clear hLA)
                  go_ret
                  exact ⟨true, a5, tc + 1, rfl, (fun _ => ⟨ha5, ha5N⟩), by omega, HLA.out⟩
end

end Go.Proofs.YtcfgjmdfpnfkjaaGreatDoor
