/- Parts of the proof of the statement that this folder hands in: lemmas and contracts (Zb). -/
import Derived.Test.YtcfgjmdfpnfkjaaGreatDoorZa
set_option linter.unusedSimpArgs false
set_option linter.unusedVariables false
set_option linter.unusedSimpArgs false
namespace Go.Proofs.YtcfgjmdfpnfkjaaGreatDoor
open Go.RowKit Pf

abbrev DecIn (w : World) (b : Nat) (d : Dec) : Prop := DecAt w b d.D d.nd d.dp d.neg d.tr

set_option maxRecDepth 100000 in
set_option maxHeartbeats 4000000 in
theorem shiftL_c (R : Nat × Nat) (S : Nat → ByteArray) (wz : World) (b k : Nat) (d : Dec) (w : World) (hC : Cheats R S wz) (hb : wz.heap.size ≤ b) (hw : Ext wz w) (h : DecAt w b d.D d.nd d.dp d.neg d.tr) (ok : d.Ok) (h1 : 1 ≤ k) (hk : k ≤ 60) (hp1 : -100000 ≤ d.dp) (hp2 : d.dp ≤ 100000) :
    Calls Tryz.prog 120 #[.pointer (some ⟨b, 0, none⟩), .int .i64 k] w fun en w' => en = .returned (.tuple #[]) ∧ Ext wz w' ∧ DecAt w' b (shl d k).D (shl d k).nd (shl d k).dp (shl d k).neg (shl d k).tr := by
  have hpos := ok.pos
  have f1 := h.n
  have HW := Sd.mk hw
  have HD := Sd.mk h
  have OK := Sd.mk ok
  have hz : ((d.nd : Int) == 0) = false := by simp; omega
  have q1 : decide ((0 : Int) < (k : Int)) = true := decide_eq_true (by omega)
  have q2 : decide ((60 : Int) < (k : Int)) = false := decide_eq_false (by omega)
  clear hw h ok
  go_enter Tryz.func120, Tryz.ntmps120
  go_wp2_with fail
  refine wp_loop_rounds 1 ?_
  rw [rounds_succ]
  go_wp2_with fail
  refine (left_c R S wz b k d _ hC hb HW.out HD.out OK.out h1 hk hp1 hp2).mono ?_
  rintro e w9 ⟨rfl, hw9, hd9⟩
  have HW9 := Sd.mk hw9
  have HD9 := Sd.mk hd9
  clear hw9 hd9
  go_wp2_with fail
  go_end0
  exact ⟨rfl, HW9.out, HD9.out⟩

set_option maxRecDepth 100000 in
set_option maxHeartbeats 4000000 in
theorem shiftR_c (wz : World) (b k : Nat) (d : Dec) (w : World) (hb : wz.heap.size ≤ b) (hw : Ext wz w) (h : DecAt w b d.D d.nd d.dp d.neg d.tr) (ok : d.Ok) (h1 : 1 ≤ k) (hk : k ≤ 95000) (hp1 : -95000 ≤ d.dp - k) (hp2 : d.dp ≤ 100000) :
    Calls Tryz.prog 120 #[.pointer (some ⟨b, 0, none⟩), .int .i64 (-(k : Int))] w fun en w' => en = .returned (.tuple #[]) ∧ Ext wz w' ∧ DecAt w' b (shrs k d k).D (shrs k d k).nd (shrs k d k).dp (shrs k d k).neg (shrs k d k).tr := by
  have hpos := ok.pos
  have f1 := h.n
  have HW := Sd.mk hw
  have HD := Sd.mk h
  have OK := Sd.mk ok
  have hz : ((d.nd : Int) == 0) = false := by simp; omega
  have q1 : decide ((0 : Int) < -(k : Int)) = false := decide_eq_false (by omega)
  have q2 : decide (-(k : Int) < 0) = true := decide_eq_true (by omega)
  have q3 : decide (0 < k) = true := decide_eq_true (by omega)
  have q4 : decide ((k : Int) < 0) = false := decide_eq_false (by omega)
  clear hw h ok
  go_enter Tryz.func120, Tryz.ntmps120
  go_wp2_with fail
  clear f1 hz q1 q2 q3 q4
  go_loopg [1] k (fun g v1 wr => ∃ (f : Nat) (d' : Dec), v1 = .int .i64 (-(g : Int)) ∧ 1 ≤ g ∧ g ≤ 95000 ∧ g ≤ 60 * f ∧ Sd (Ext wz wr) ∧ Sd (DecIn wr b d') ∧ Sd d'.Ok ∧ -95000 ≤ d'.dp - g ∧ d'.dp ≤ 100000 ∧ Sd (shrs f d' g = shrs k d k))
  case atStart => exact ⟨k, d, rfl, h1, hk, by omega, HW, HD, OK, hp1, hp2, ⟨rfl⟩⟩
  case round =>
    clear HW HD OK
    obtain ⟨f, d', rfl, h1', hgk, hf, HW, HD, OK, hq1, hq2, HL⟩ := hrel
    obtain ⟨f, rfl⟩ : ∃ f', f = f' + 1 := ⟨f - 1, by omega⟩
    by_cases h60 : 60 < gk
    · have q3 : decide (-(gk : Int) < -60) = true := decide_eq_true (by omega)
      have HL2 : Sd (shrs f (shr d' 60) (gk - 60) = shrs k d k) := ⟨by rw [← HL.out, shrs, if_pos h60]⟩
      have hs := shr_ok OK.out (k := 60) (by omega) (by omega)
      have OK2 := Sd.mk hs.1
      have hs1 := hs.2.1
      have hs2 := hs.2.2.1
      clear hs HL
      go_wp2_with fail
      refine (right_c wz b 60 d' _ hb HW.out HD.out OK.out (by omega) (by omega) (by omega) (by omega)).mono ?_
      rintro e w9 ⟨rfl, hw9, hd9⟩
      have HW9 := Sd.mk hw9
      have HD9 : Sd (DecIn w9 b (shr d' 60)) := ⟨hd9⟩
      clear hw9 hd9
      go_wp2_with fail
      go_roundg (gk - 60)
      case measure => omega
      case rel => exact ⟨f, shr d' 60, by congr 1; omega, by omega, by omega, by omega, HW9, HD9, OK2, by omega, by omega, HL2⟩
    · have q3 : decide (-(gk : Int) < -60) = false := decide_eq_false (by omega)
      have HL2 : Sd (shr d' gk = shrs k d k) := ⟨by rw [← HL.out, shrs, if_neg h60]⟩
      clear HL
      go_wp2_with fail
      refine (right_c wz b gk d' _ hb HW.out HD.out OK.out (by omega) (by omega) (by omega) (by omega)).mono ?_
      rintro e w9 ⟨rfl, hw9, hd9⟩
      rw [HL2.out] at hd9
      have HW9 := Sd.mk hw9
      have HD9 := Sd.mk hd9
      clear hw9 hd9
      go_wp2_with fail
      go_end0
      exact ⟨rfl, HW9.out, HD9.out⟩

end Go.Proofs.YtcfgjmdfpnfkjaaGreatDoor
