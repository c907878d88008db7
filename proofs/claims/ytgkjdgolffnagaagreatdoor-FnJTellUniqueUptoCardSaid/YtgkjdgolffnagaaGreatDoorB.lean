/- Parts of the proof of the statement that this folder hands in: lemmas and contracts (B). -/
import Derived.Test.YtgkjdgolffnagaaGreatDoorAMg
set_option linter.unusedSimpArgs false
set_option linter.unusedVariables false
namespace Go.Proofs.YtgkjdgolffnagaaGreatDoor
open Go.RowKit

/-- A decimal digit. -/
def dig (c : Int) : Bool := decide (48 ≤ c) && decide (c ≤ 57)

theorem digit_c (c : Int) (w : World) :
    Calls Tryz.prog 126 #[.int .u8 c] w fun e w' => e = .returned (.bool (dig c)) ∧ w = w' := by
  by_cases h : c ≥ 48
  · by_cases h2 : c ≤ 57
    · go_enter Tryz.func126, Tryz.ntmps126
      go_wp2
      go_ret
      exact ⟨by simp [dig, h, h2], rfl⟩
    · go_enter Tryz.func126, Tryz.ntmps126
      go_wp2
      go_ret
      exact ⟨by simp [dig, h2], rfl⟩
  · go_enter Tryz.func126, Tryz.ntmps126
    go_wp2
    go_ret
    exact ⟨by simp [dig]; omega, rfl⟩

/-- A text of digits. -/
theorem digits_c (s : ByteArray) (w : World) (hs : s.size ≤ 1048576) :
    Calls Tryz.prog 84 #[.string s] w fun e w' => (∃ b, e = .returned (.bool b) ∧ (b = true → 0 < s.size ∧ ∀ i (h : i < s.size), dig (s[i].toNat) = true) ∧ (b = false → s.size = 0 ∨ ∃ i, ∃ (h : i < s.size), dig (s[i].toNat) = false)) ∧ w = w' := by
  go_enter Tryz.func84, Tryz.ntmps84
  go_wp2
  go_loopg [3] s.size (fun g v3 wr => ∃ j : Nat, v3 = .int .i64 j ∧ g + j = s.size ∧ Sd (∀ i (h : i < s.size), i < j → dig (s[i].toNat) = true) ∧ w = wr)
  case atStart => exact ⟨0, rfl, rfl, ⟨fun i _ h => absurd h (by omega)⟩, rfl⟩
  case round =>
    obtain ⟨j, rfl, hg, HA, rfl⟩ := hrel
    by_cases hj : j < s.size
    · rcases hd : dig (s[j].toNat)
      all_goals go_wp2_with (go_at_call 126; refine (digit_c _ _).mono ?_; rintro e w' ⟨rfl, rfl⟩)
      · go_ret
        exact ⟨⟨false, rfl, by simp, fun _ => .inr ⟨j, hj, hd⟩⟩, rfl⟩
      · go_roundg (s.size - (j + 1))
        case measure => omega
        case rel => exact ⟨j + 1, by go_num, by omega, ⟨fun i h h2 => if e : i = j then by subst e; exact hd else HA.out i h (by omega)⟩, rfl⟩
    · by_cases h0 : 0 < s.size
      · go_wp2
        go_ret
        exact ⟨⟨true, by simp [h0], fun _ => ⟨h0, fun i h => HA.out i h (by omega)⟩, by simp⟩, rfl⟩
      · go_wp2
        go_ret
        exact ⟨⟨false, by simp [h0], by simp, fun _ => .inl (by omega)⟩, rfl⟩

theorem digits_any (s : ByteArray) (w : World) (hs : s.size ≤ 1048576) :
    Calls Tryz.prog 84 #[.string s] w fun e w' => (∃ b, e = .returned (.bool b)) ∧ w = w' :=
  (digits_c s w hs).mono fun _ _ ⟨⟨b, h, _⟩, hw⟩ => ⟨⟨b, h⟩, hw⟩

theorem number_any (s : ByteArray) (w : World) (hs : s.size ≤ 1048576) :
    Calls Tryz.prog 45 #[.string s] w fun e w' => (∃ n : Int, e = .returned (.int .i64 n)) ∧ w = w' := by
  go_enter Tryz.func45, Tryz.ntmps45
  go_wp2
  go_loopg [3, 4] s.size (fun g v3 v4 wr => ∃ (j : Nat) (n : Int), v3 = .int .i64 n ∧ v4 = .int .i64 j ∧ g + j = s.size ∧ w = wr)
  case atStart => exact ⟨0, 0, rfl, rfl, rfl, rfl⟩
  case round =>
    obtain ⟨j, n, rfl, rfl, hg, rfl⟩ := hrel
    by_cases hj : j < s.size
    · go_wp2
      go_roundg (s.size - (j + 1))
      case measure => omega
      case rel => exact ⟨j + 1, _, rfl, by go_num, by omega, rfl⟩
    · go_wp2
      go_ret
      exact ⟨⟨_, rfl⟩, rfl⟩

theorem plain_any (s : ByteArray) (w : World) (hs : s.size ≤ 1048576) :
    Calls Tryz.prog 44 #[.string s] w fun e w' => (∃ b, e = .returned (.bool b) ∧ (b = true → 0 < s.size)) ∧ w = w' := by
  go_enter Tryz.func44, Tryz.ntmps44
  go_wp2_with fail
  refine (digits_c _ _ hs).mono ?_
  rintro e w' ⟨⟨b, rfl, hb, hb'⟩, rfl⟩
  clear hb'
  cases b
  · clear hb
    go_wp2_with fail
    go_ret
    exact ⟨⟨_, rfl, by simp⟩, rfl⟩
  · have h0 : 0 < s.size := (hb rfl).1
    clear hb
    go_wp2_with fail
    all_goals go_ret
    all_goals exact ⟨⟨_, rfl, fun _ => h0⟩, rfl⟩

theorem bare_any (s : ByteArray) (w : World) (hs : s.size ≤ 1048576) :
    Calls Tryz.prog 127 #[.string s] w fun e w' => (∃ t : ByteArray, e = .returned (.string t) ∧ t.size ≤ s.size) ∧ w = w' := by
  go_enter Tryz.func127, Tryz.ntmps127
  go_wp2
  go_loopg [0] s.size (fun g v0 wr => ∃ t : ByteArray, v0 = .string t ∧ t.size ≤ g ∧ t.size ≤ s.size ∧ w = wr)
  case atStart => exact ⟨s, rfl, Nat.le_refl _, Nat.le_refl _, rfl⟩
  case round =>
    obtain ⟨t, rfl, hg, ht, rfl⟩ := hrel
    by_cases h0 : 0 < t.size
    · obtain ⟨n1, n2⟩ := str_ne h0
      by_cases hc : (t[0].toNat : Int) = 48
      · have hc' : ((t[0].toNat : Int) == 48) = true := by simp [hc]
        go_wp2
        go_roundg (gk - 1)
        case measure => omega
        case rel => exact ⟨t.extract 1 t.size, rfl, by simp [ByteArray.size_extract]; omega, by simp [ByteArray.size_extract]; omega, rfl⟩
      · have hc' : ((t[0].toNat : Int) == 48) = false := by simp; omega
        go_wp2
        go_ret
        exact ⟨⟨t, rfl, ht⟩, rfl⟩
    · have n1 := str_nil h0
      go_wp2
      go_ret
      exact ⟨⟨t, rfl, ht⟩, rfl⟩

theorem run_any (s : ByteArray) (i : Nat) (w : World) (hs : s.size ≤ 1048576) (hi : i ≤ s.size) :
    Calls Tryz.prog 85 #[.string s, .int .i64 i] w fun e w' => (∃ j : Nat, e = .returned (.int .i64 j) ∧ i ≤ j ∧ j ≤ s.size) ∧ w = w' := by
  go_enter Tryz.func85, Tryz.ntmps85
  go_wp2
  go_loopg [1] (s.size - i) (fun g v1 wr => ∃ j : Nat, v1 = .int .i64 j ∧ g + j = s.size ∧ i ≤ j ∧ w = wr)
  case atStart => exact ⟨i, rfl, by omega, Nat.le_refl _, rfl⟩
  case round =>
    obtain ⟨j, rfl, hg, ht, rfl⟩ := hrel
    by_cases hj : j < s.size
    · rcases hd : dig (s[j].toNat)
      all_goals go_wp2_with (go_at_call 126; refine (digit_c _ _).mono ?_; rintro e w' ⟨rfl, rfl⟩)
      · go_ret
        exact ⟨⟨j, rfl, ht, by omega⟩, rfl⟩
      · go_roundg (s.size - (j + 1))
        case measure => omega
        case rel => exact ⟨j + 1, by go_num, by omega, by omega, rfl⟩
    · go_wp2_with fail
      go_ret
      exact ⟨⟨j, rfl, ht, by omega⟩, rfl⟩

theorem extract1 (s : ByteArray) (h : s.size ≤ 1048576) : (s.extract 1 s.size).size = s.size - 1 ∧ (s.extract 1 s.size).size ≤ 1048576 := by
  simp [ByteArray.size_extract]; omega

set_option maxHeartbeats 800000 in
theorem exponent_any (s : ByteArray) (w : World) (hs : s.size ≤ 1048576) :
    Calls Tryz.prog 86 #[.string s] w fun e w' => (∃ (n : Int) (b : Bool), e = .returned (.tuple #[.int .i64 n, .bool b])) ∧ w = w' := by
  by_cases h0 : 0 < s.size
  · obtain ⟨n1, n2⟩ := str_ne h0
    go_enter Tryz.func86, Tryz.ntmps86
    go_upto_region 3 with (fail)
    go_cut [14] (fun v14 wx => ∃ b, v14 = .bool b ∧ w = wx)
    case first =>
      go_wp2_with fail
      all_goals (go_meet; exact ⟨_, rfl, rfl⟩)
    case rest =>
      obtain ⟨b, rfl, rfl⟩ := hcut
      cases b
      · go_upto_region 5 with (fail)
        go_cut [0] (fun v0 wx => ∃ t : ByteArray, v0 = .string t ∧ t.size ≤ 1048576 ∧ w = wx)
        case first =>
          go_wp2_with fail
          go_meet
          exact ⟨_, rfl, (extract1 s hs).2, rfl⟩
        case rest =>
          obtain ⟨t, rfl, ht, rfl⟩ := hcut
          clear h0 n1 n2
          go_upto_region 6 with (fail)
          go_cut [4] (fun v4 wx => ∃ b, v4 = .bool b ∧ (b = true → 0 < t.size) ∧ w = wx)
          case first =>
            by_cases h1 : 0 < t.size
            · obtain ⟨n1, n2⟩ := str_ne h1
              go_wp2_with fail
              all_goals (go_meet; exact ⟨_, rfl, fun _ => h1, rfl⟩)
            · have n1 := str_nil h1
              go_wp2_with fail
              all_goals (go_meet; exact ⟨_, rfl, by simp, rfl⟩)
          case rest =>
            obtain ⟨b, rfl, hb, rfl⟩ := hcut
            have HB := Sd.mk hb
            clear hb
            go_upto_region 7 with (fail)
            go_cut [33] (fun v33 wx => ∃ c, v33 = .bool c ∧ (c = true → 0 < t.size) ∧ w = wx)
            case first =>
              cases b
              · by_cases h1 : 0 < t.size
                · obtain ⟨n1, n2⟩ := str_ne h1
                  go_wp2_with fail
                  all_goals (go_meet; exact ⟨_, rfl, fun _ => h1, rfl⟩)
                · have n1 := str_nil h1
                  go_wp2_with fail
                  all_goals (go_meet; exact ⟨_, rfl, by simp, rfl⟩)
              · go_wp2_with fail
                all_goals (go_meet; exact ⟨_, rfl, fun _ => by simpa using HB.out, rfl⟩)
            case rest =>
              obtain ⟨c, rfl, hc, rfl⟩ := hcut
              go_upto_if 33 with (fail)
              go_cut [0] (fun v0 wx => ∃ t : ByteArray, v0 = .string t ∧ t.size ≤ 1048576 ∧ w = wx)
              case first =>
                cases c
                · go_wp2_with fail
                  go_meet
                  exact ⟨_, rfl, ht, rfl⟩
                · have h1 : 0 < t.size := hc rfl
                  clear hc
                  go_wp2_with fail
                  go_meet
                  exact ⟨_, rfl, (extract1 t ht).2, rfl⟩
              case rest =>
                clear hc HB ht
                obtain ⟨t2, rfl, ht, rfl⟩ := hcut
                cases b
                all_goals go_wp2_with (first | (go_at_call 84; ((with_reducible refine (digits_any _ _ ht).mono ?_); rintro e w' ⟨⟨b, rfl⟩, rfl⟩)) | (go_at_call 45; ((with_reducible refine (number_any _ _ ht).mono ?_); rintro e w' ⟨⟨b, rfl⟩, rfl⟩)))
                all_goals go_ret2
                all_goals exact ⟨⟨_, _, rfl⟩, rfl⟩
      · go_wp2_with fail
        go_ret2
        exact ⟨⟨_, _, rfl⟩, rfl⟩
  · have n1 := str_nil h0
    go_enter Tryz.func86, Tryz.ntmps86
    go_wp2_with fail
    go_ret2
    exact ⟨⟨_, _, rfl⟩, rfl⟩

theorem extractp (s : ByteArray) (h : s.size ≤ 1048576) (h0 : 0 < s.size) : (s.extract 0 (s.size - 1)).size = s.size - 1 := by
  simp [ByteArray.size_extract]

set_option maxHeartbeats 800000 in
theorem lean_any (m : Bool) (t : ByteArray) (n : Int) (w : World) (hs : t.size ≤ 1048576) :
    Calls Tryz.prog 87 #[.agg #[.bool m, .string t, .int .i64 n]] w fun e w' => (∃ (m : Bool) (t : ByteArray) (n : Int), e = .returned (.agg #[.bool m, .string t, .int .i64 n])) ∧ Ext w w' := by
  go_enter Tryz.func87, Tryz.ntmps87
  go_wp2_with (go_at_call 127; refine (bare_any _ _ hs).mono ?_; rintro e w' ⟨⟨t1, rfl, ht1⟩, rfl⟩)
  go_loopg [] t1.size (fun g wr => ∃ (t2 : ByteArray) (x : Int), t2.size ≤ g ∧ t2.size ≤ 1048576 ∧ Sd (wr.heap[w.heap.size]? = some (.cells #[.bool m, .string t2, .int .i64 x] 95 (0, 0))) ∧
    Sd (wr.heap[w.heap.size + 1]? = some (.cells #[.bool false, .string ⟨#[]⟩, .int .i64 0] 95 (0, 0))) ∧ Sd (Ext w wr))
  case atStart => exact ⟨t1, n, Nat.le_refl _, by omega, ⟨box_keep (box_alloc _ _) _⟩, ⟨box_alloc2 _ _ _⟩, ⟨((Ext.refl _).alloc _).alloc _⟩⟩
  case round =>
    obtain ⟨t2, x, hg, ht, HB, HR, HE⟩ := hrel
    have c1 := box_cell HB.out
    have f1 := box_frozen HB.out
    have c2 := box_cell HR.out
    have f2 := box_frozen HR.out
    by_cases h0 : 0 < t2.size
    · obtain ⟨n1, n2⟩ := str_ne h0
      by_cases hc : (t2[t2.size - 1].toNat : Int) = 48
      · have hc' : ((t2[t2.size - 1].toNat : Int) == 48) = true := by simp [hc]
        go_wp2
        go_roundg (gk - 1)
        case measure => omega
        case rel => exact ⟨_, _, by rw [extractp _ ht h0]; omega, by rw [extractp _ ht h0]; omega, ⟨by simpa using box_set (box_set HB.out 1 _) 2 _⟩, ⟨box_other (box_other HR.out _ (by simp) _) _ (by simp) _⟩, ⟨(HE.out.setCell (Nat.le_refl _) _).setCell (Nat.le_refl _) _⟩⟩
      · have hc' : ((t2[t2.size - 1].toNat : Int) == 48) = false := by simp; omega
        go_wp2
        refine bodyPost_ret (v := .agg #[.bool m, .string t2, .int .i64 x]) (by simp [results, Tryz.results87, go_sem, c2]) rfl ⟨⟨_, _, _, rfl⟩, ?_⟩
        exact (((HE.out.setCell (by simp) _).setCell (by simp) _).setCell (by simp) _)
    · have n1 := str_nil h0
      go_wp2
      refine bodyPost_ret (v := .agg #[.bool false, .string ⟨#[]⟩, .int .i64 0]) (by simp [results, Tryz.results87, go_sem, c2]) rfl ⟨⟨_, _, _, rfl⟩, ?_⟩
      exact (((HE.out.setCell (by simp) _).setCell (by simp) _).setCell (by simp) _)

theorem extract_le (s : ByteArray) (a b : Nat) (h : s.size ≤ 1048576) : (s.extract a b).size ≤ 1048576 := by
  simp [ByteArray.size_extract]; omega

/-- Whatever a result of jDecimalOf tells. -/
def DecRes (e : Ending) : Prop := ∃ (m : Bool) (t : ByteArray) (n : Int) (b : Bool), e = .returned (.tuple #[.agg #[.bool m, .string t, .int .i64 n], .bool b])

set_option maxRecDepth 100000 in
set_option maxHeartbeats 1600000 in
theorem decimalOf_any (s : ByteArray) (w : World) (hs : s.size ≤ 1048576) :
    Calls Tryz.prog 47 #[.string s] w fun e w' => DecRes e ∧ Ext w w' := by
  by_cases h40 : (s.size : Int) > 40
  · go_enter Tryz.func47, Tryz.ntmps47
    go_wp2_with fail
    refine bodyPost_ret (v := .tuple #[.agg #[.bool false, .string ⟨#[]⟩, .int .i64 0], .bool false]) (by simp [results, Tryz.results47, go_sem]) rfl ⟨⟨_, _, _, _, rfl⟩, ?_⟩
    exact (Ext.refl _).alloc _
  · go_enter Tryz.func47, Tryz.ntmps47
    go_upto_region 4 with (fail)
    go_cut [20] (fun v20 wx => ∃ b, v20 = .bool b ∧ (b = true → 0 < s.size) ∧ wx = w.alloc (.cells #[.bool false, .string ⟨#[]⟩, .int .i64 0] 95))
    case first =>
      by_cases h1 : 0 < s.size
      · obtain ⟨n1, n2⟩ := str_ne h1
        go_wp2_with fail
        all_goals (go_meet; exact ⟨_, rfl, fun _ => h1, rfl⟩)
      · have n1 := str_nil h1
        go_wp2_with fail
        all_goals (go_meet; exact ⟨_, rfl, by simp, rfl⟩)
    case rest =>
      obtain ⟨b, rfl, hb, rfl⟩ := hcut
      go_upto_if 20 with (fail)
      go_cut [4] (fun v4 wx => ∃ i : Nat, v4 = .int .i64 i ∧ i ≤ s.size ∧ wx = w.alloc (.cells #[.bool false, .string ⟨#[]⟩, .int .i64 0] 95))
      case first =>
        cases b
        · clear hb
          go_wp2_with fail
          go_meet
          exact ⟨0, rfl, by omega, rfl⟩
        · have h1 := hb rfl
          clear hb
          go_wp2_with fail
          go_meet
          exact ⟨1, rfl, by omega, rfl⟩
      case rest =>
        clear hb
        obtain ⟨i, rfl, hi, rfl⟩ := hcut
        go_upto_region 10 with (first | (go_at_call 85; ((with_reducible refine (run_any _ _ _ hs hi).mono ?_); rintro e w' ⟨⟨j, rfl, hj1, hj2⟩, rfl⟩)) | (go_at_call 44; ((with_reducible refine (plain_any _ _ (extract_le _ _ _ hs)).mono ?_); rintro e w' ⟨⟨c, rfl, hc⟩, rfl⟩; clear hc; cases c)))
        · refine bodyPost_ret (v := .tuple #[.agg #[.bool false, .string ⟨#[]⟩, .int .i64 0], .bool false]) (by simp [results, Tryz.results47, go_sem]) rfl ⟨⟨_, _, _, _, rfl⟩, ?_⟩
          exact (Ext.refl _).alloc _
        · go_cut [41] (fun v41 wx => ∃ b, v41 = .bool b ∧ (b = true → j < s.size) ∧ wx = w.alloc (.cells #[.bool false, .string ⟨#[]⟩, .int .i64 0] 95))
          case first =>
            by_cases h1 : j < s.size
            · go_wp2_with fail
              all_goals (go_meet; exact ⟨_, rfl, fun _ => h1, rfl⟩)
            · go_wp2_with fail
              all_goals (go_meet; exact ⟨_, rfl, by simp, rfl⟩)
          case rest =>
            obtain ⟨b, rfl, hb, rfl⟩ := hcut
            go_upto_if 41 with (fail)
            go_cut [6] (fun v6 wx => ∃ p : Nat, v6 = .int .i64 p ∧ j ≤ p ∧ p ≤ s.size ∧ wx = w.alloc (.cells #[.bool false, .string ⟨#[]⟩, .int .i64 0] 95))
            case first =>
              cases b
              · clear hb
                go_wp2_with fail
                go_meet
                exact ⟨j, rfl, Nat.le_refl _, hj2, rfl⟩
              · have h1 := hb rfl
                clear hb
                have hj3 : j + 1 ≤ s.size := by omega
                go_wp2_with fail
                have hr := run_any s (j + 1) (w.alloc (.cells #[.bool false, .string ⟨#[]⟩, .int .i64 0] 95)) hs hj3
                rw [show (((j + 1 : Nat)) : Int) = (j : Int) + 1 by omega] at hr
                refine hr.mono ?_
                clear hr
                rintro e w' ⟨⟨p, rfl, hp1, hp2⟩, rfl⟩
                go_wp2_with fail
                · refine bodyPost_ret (v := .tuple #[.agg #[.bool false, .string ⟨#[]⟩, .int .i64 0], .bool false]) (by simp [results, Tryz.results47, go_sem]) rfl ⟨⟨_, _, _, _, rfl⟩, ?_⟩
                  exact (Ext.refl _).alloc _
                · go_meet
                  exact ⟨p, rfl, by omega, hp2, rfl⟩
            case rest =>
              obtain ⟨p, rfl, hp1, hp2, rfl⟩ := hcut
              clear hb
              by_cases hpj : j < p
              all_goals go_wp2_with (go_at_call 86; ((with_reducible refine (exponent_any _ _ (extract_le _ _ _ hs)).mono ?_); rintro e w' ⟨⟨n, c, rfl⟩, rfl⟩))
              all_goals first
                | (refine bodyPost_ret (v := .tuple #[.agg #[.bool false, .string ⟨#[]⟩, .int .i64 0], .bool false]) (by simp [results, Tryz.results47, go_sem]) rfl ⟨⟨_, _, _, _, rfl⟩, ?_⟩
                   exact (Ext.refl _).alloc _)
                | (refine (lean_any _ _ _ _ ?_).mono ?_
                   · first | exact extract_le _ _ _ hs | (simp only [ByteArray.size_append, ByteArray.size_extract]; omega)
                   · rintro e w' ⟨⟨m3, t3, n3, rfl⟩, he⟩
                     have c0 := box_cell (box_ext (box_alloc _ _) he)
                     have f0 := box_frozen (box_ext (box_alloc _ _) he)
                     have HE := Sd.mk he
                     clear he
                     go_wp2_with fail
                     refine bodyPost_ret (v := .tuple #[.agg #[.bool m3, .string t3, .int .i64 n3], .bool true]) (by simp [results, Tryz.results47, go_sem, c0]) rfl ⟨⟨_, _, _, _, rfl⟩, ?_⟩
                     exact ((((Ext.refl _).alloc _).trans HE.out).setCell (Nat.le_refl _) _).setCell (Nat.le_refl _) _ |>.setCell (Nat.le_refl _) _)

end Go.Proofs.YtgkjdgolffnagaaGreatDoor
