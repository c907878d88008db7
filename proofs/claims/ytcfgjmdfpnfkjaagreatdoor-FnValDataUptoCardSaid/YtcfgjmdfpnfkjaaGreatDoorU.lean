/- Parts of the proof of the statement that this folder hands in: lemmas and contracts (U). -/
import Derived.Test.YtcfgjmdfpnfkjaaGreatDoorT
import Derived.Lib.Bits
import Derived.Lib.BitFns
set_option linter.unusedSimpArgs false
set_option linter.unusedVariables false
set_option linter.unusedSimpArgs false
namespace Go.Proofs.YtcfgjmdfpnfkjaaGreatDoor
open Go.RowKit

/-- What the library's Len64 does (laid from the shelf). -/
def LenC : Prop := ∀ (x : Int) (w : World), 0 ≤ x → x ≤ 18446744073709551615 → Calls Tryz.prog 73 #[.int .u64 x] w fun e w' => e = .returned (.int .i64 (Lib.bitLen x.toNat)) ∧ w' = w
theorem b2_01 (b : Bool) : 0 ≤ b2F b ∧ b2F b ≤ 1 := by cases b <;> decide

/-- Behind the scale: what the word comes to, E being its place. -/
noncomputable def pfS (hi lo d sg E s : Int) (bl : Nat) : Nat × Int :=
  if 64 ≤ s then ((bits BinOp.or IntKind.u64 sg 0).toNat, 0)
  else pkF (bits BinOp.or IntKind.u64 sg (rdF (bits BinOp.or IntKind.u64 (usF (IntKind.u64.wrap (d * 2 ^ (64 - bl))) hi lo s / 2 ^ min (b2F (decide (unF 9007199254740992 ≤ usF (IntKind.u64.wrap (d * 2 ^ (64 - bl))) hi lo s))).toNat 64) (bits BinOp.and IntKind.u64 (usF (IntKind.u64.wrap (d * 2 ^ (64 - bl))) hi lo s) 1))))
    (wrap64 (-(wrap64 (E - b2F (decide (unF 9007199254740992 ≤ usF (IntKind.u64.wrap (d * 2 ^ (64 - bl))) hi lo s))))))
def pfE (d : Int) (q : Nat) : Int := if 1074 ≤ wrap64 (53 - (Lib.bitLen d.toNat : Int) - l2F ((q : Int) - 348)) then 1074 else wrap64 (53 - (Lib.bitLen d.toNat : Int) - l2F ((q : Int) - 348))
noncomputable def pfF (T : Nat → Int) (d : Int) (q : Nat) (sg : Int) : Nat × Int :=
  pfS (T (q * 2)) (T (q * 2 + 1)) d sg (pfE d q) (wrap64 (-(wrap64 (wrap64 (wrap64 (pfE d q - (64 - (Lib.bitLen d.toNat : Int))) + l2F ((q : Int) - 348)) + 3)))) (Lib.bitLen d.toNat)

set_option maxRecDepth 100000 in
set_option maxHeartbeats 4000000 in
theorem pf64_c (HL : Sd LenC) (T : Nat → Int) (d sg : Int) (q : Nat) (w : World) (hd0 : 0 ≤ d) (hd1 : d ≤ 18446744073709551615) (hq : q < 696) (hT : Pow T w) (H9 : 9 < w.heap.size) :
    Calls Tryz.prog 100 #[.int .u64 d, .int .i64 ((q : Int) - 348), .int .u64 sg] w fun en w' => en = .returned (.tuple #[.float .f64 (pfF T d q sg).1, err (pfF T d q sg).2]) ∧ Ext w w' := by
  have HT := Sd.mk hT
  have h98 := run98
  clear hT
  have hbl : Lib.bitLen d.toNat ≤ 64 := Lib.bitLen_le d.toNat 64 (by omega) (by omega)
  unfold pfF
  have HE : Sd (pfE d q = if 1074 ≤ wrap64 (53 - (Lib.bitLen d.toNat : Int) - l2F ((q : Int) - 348)) then 1074 else wrap64 (53 - (Lib.bitLen d.toNat : Int) - l2F ((q : Int) - 348))) := ⟨rfl⟩
  generalize pfE d q = E at HE
  have HLen := HL.out d
  generalize hb : Lib.bitLen d.toNat = bl at hbl HE HLen
  have HLN := Sd.mk HLen
  clear hb HLen
  go_enter Tryz.func100, Tryz.ntmps100
  go_wp2_with fail
  refine (HLN.out _ hd0 hd1).mono ?_
  rintro e w1 ⟨rfl, hw⟩
  subst hw
  go_wp2_with (first | (go_at_call 113; refine (log2_c _ _).mono ?_; rintro e w' ⟨rfl, rfl⟩) | fail)
  all_goals
    refine (prescale_c T _ q _ _ 0 0 0 _ hq (HT.out.ext ((Ext.refl _).alloc _)) (box_alloc _ _) (by have := H9; omega)).mono ?_
    rintro e w2 ⟨rfl, rfl⟩
  · have hE := HE.out.trans (if_neg (by omega))
    clear HE
    subst hE
    generalize hs : wrap64 (-(wrap64 (wrap64 (wrap64 (_ - (64 - (bl : Int))) + _) + 3))) = s
    have HX := Sd.mk (box_set (box_set (box_set (box_alloc w' (.cells #[.int .u64 0, .int .u64 0, .int .i64 0] 199 (0, 0))) 0 (.int .u64 (T (q * 2)))) 1 (.int .u64 (T (q * 2 + 1)))) 2 (.int .i64 s))
    have HY : Sd (Ext w' ((((w'.alloc (.cells #[.int .u64 0, .int .u64 0, .int .i64 0] 199 (0, 0))).setCell ⟨w'.heap.size, 0, none⟩ (.int .u64 (T (q * 2)))).setCell ⟨w'.heap.size, 1, none⟩ (.int .u64 (T (q * 2 + 1)))).setCell ⟨w'.heap.size, 2, none⟩ (.int .i64 s))) := ⟨((((Ext.refl w').alloc _).setCell (Nat.le_refl _) _).setCell (Nat.le_refl _) _).setCell (Nat.le_refl _) _⟩
    have HSs := Sd.mk hs
    clear hs
    generalize (((w'.alloc (.cells #[.int .u64 0, .int .u64 0, .int .i64 0] 199 (0, 0))).setCell ⟨w'.heap.size, 0, none⟩ (.int .u64 (T (q * 2)))).setCell ⟨w'.heap.size, 1, none⟩ (.int .u64 (T (q * 2 + 1)))).setCell ⟨w'.heap.size, 2, none⟩ (.int .i64 s) = W at HX HY
    have HX2 : Sd (W.heap[w'.heap.size]? = some (.cells #[.int .u64 (T (q * 2)), .int .u64 (T (q * 2 + 1)), .int .i64 s] 199 (0, 0))) := ⟨by simpa using HX.out⟩
    have f := box_cell HX2.out
    clear HX
    by_cases h64 : 64 ≤ s
    · go_wp2_with fail
      go_ret2
      exact ⟨by rw [HSs.out]; unfold pfS; rw [if_pos h64]; rfl, HY.out⟩
    · have hn : (0 : Int) ≤ 64 - (bl : Int) := by omega
      have hn2 : ((64 : Int) - (bl : Int)).toNat = 64 - bl := by omega
      have hb2 := b2_01
      go_wp2_with (first
        | (go_at_call 115; refine (uscale_c _ _ _ _ _ _ HX2.out).mono ?_; rintro e w3 ⟨rfl, n3, rfl⟩)
        | (go_at_call 117; refine (unmin_c _ _).mono ?_; rintro e w4 ⟨rfl, rfl⟩)
        | (go_at_call 116; refine (boolInt_c _ _).mono ?_; rintro e w4 ⟨rfl, rfl⟩)
        | (go_at_call 119; refine (round_c _ _).mono ?_; rintro e w4 ⟨rfl, rfl⟩)
        | (go_at_call 122; refine (pack_c _ _ _).mono ?_; rintro e w4 ⟨rfl, rfl⟩)
        | fail)
      go_ret2
      exact ⟨by rw [HSs.out]; unfold pfS; rw [if_neg (by omega)]; rfl, HY.out.drewN _⟩
  · have hE := HE.out.trans (if_pos (by assumption))
    clear HE
    subst hE
    generalize hs : wrap64 (-(wrap64 (wrap64 (wrap64 (_ - (64 - (bl : Int))) + _) + 3))) = s
    have HX := Sd.mk (box_set (box_set (box_set (box_alloc w' (.cells #[.int .u64 0, .int .u64 0, .int .i64 0] 199 (0, 0))) 0 (.int .u64 (T (q * 2)))) 1 (.int .u64 (T (q * 2 + 1)))) 2 (.int .i64 s))
    have HY : Sd (Ext w' ((((w'.alloc (.cells #[.int .u64 0, .int .u64 0, .int .i64 0] 199 (0, 0))).setCell ⟨w'.heap.size, 0, none⟩ (.int .u64 (T (q * 2)))).setCell ⟨w'.heap.size, 1, none⟩ (.int .u64 (T (q * 2 + 1)))).setCell ⟨w'.heap.size, 2, none⟩ (.int .i64 s))) := ⟨((((Ext.refl w').alloc _).setCell (Nat.le_refl _) _).setCell (Nat.le_refl _) _).setCell (Nat.le_refl _) _⟩
    have HSs := Sd.mk hs
    clear hs
    generalize (((w'.alloc (.cells #[.int .u64 0, .int .u64 0, .int .i64 0] 199 (0, 0))).setCell ⟨w'.heap.size, 0, none⟩ (.int .u64 (T (q * 2)))).setCell ⟨w'.heap.size, 1, none⟩ (.int .u64 (T (q * 2 + 1)))).setCell ⟨w'.heap.size, 2, none⟩ (.int .i64 s) = W at HX HY
    have HX2 : Sd (W.heap[w'.heap.size]? = some (.cells #[.int .u64 (T (q * 2)), .int .u64 (T (q * 2 + 1)), .int .i64 s] 199 (0, 0))) := ⟨by simpa using HX.out⟩
    have f := box_cell HX2.out
    clear HX
    by_cases h64 : 64 ≤ s
    · go_wp2_with fail
      go_ret2
      exact ⟨by rw [HSs.out]; unfold pfS; rw [if_pos h64]; rfl, HY.out⟩
    · have hn : (0 : Int) ≤ 64 - (bl : Int) := by omega
      have hn2 : ((64 : Int) - (bl : Int)).toNat = 64 - bl := by omega
      have hb2 := b2_01
      go_wp2_with (first
        | (go_at_call 115; refine (uscale_c _ _ _ _ _ _ HX2.out).mono ?_; rintro e w3 ⟨rfl, n3, rfl⟩)
        | (go_at_call 117; refine (unmin_c _ _).mono ?_; rintro e w4 ⟨rfl, rfl⟩)
        | (go_at_call 116; refine (boolInt_c _ _).mono ?_; rintro e w4 ⟨rfl, rfl⟩)
        | (go_at_call 119; refine (round_c _ _).mono ?_; rintro e w4 ⟨rfl, rfl⟩)
        | (go_at_call 122; refine (pack_c _ _ _).mono ?_; rintro e w4 ⟨rfl, rfl⟩)
        | fail)
      go_ret2
      exact ⟨by rw [HSs.out]; unfold pfS; rw [if_neg (by omega)]; rfl, HY.out.drewN _⟩

end Go.Proofs.YtcfgjmdfpnfkjaaGreatDoor
