/- For every value whose reading is of bulk at most 1048576, laws.FnValData returns true and its argument reads afterwards as it read before. Conditions: the bound on the bulk (the second form); the thirteen listed package variables read, when the call begins, as their initialisers lay them (the card ties that to the program text). -/
import Derived.Test.YtcfgjmdfpnfkjaaGreatDoorYdMg
import Derived.Test.YtcfgjmdfpnfkjaaGreatDoorTs
import Derived.Test.YtcfgjmdfpnfkjaaGreatDoorRMg
import Derived.Test.YtcfgjmdfpnfkjaaGreatDoorSa
import Derived.Test.YtcfgjmdfpnfkjaaGreatDoorScMg
import Derived.Test.YtcfgjmdfpnfkjaaGreatDoorCards
import Derived.Test.YtcfgjmdfpnfkjaaGreatDoorTie
set_option linter.unusedSimpArgs false
set_option linter.unusedVariables false
set_option linter.unusedSimpArgs false
namespace Go.Proofs.YtcfgjmdfpnfkjaaGreatDoor
open Go.RowKit Pf

theorem bytes_ext {w w' : World} {t : TypeId} (h : w' = w ∨ ∃ q, w' = Lib.bytesWorld w t q) : Ext w w' := by
  rcases h with rfl | ⟨q, rfl⟩
  · exact Ext.refl _
  · exact Lib.bytesWorld_below _ _ _
/-- What is laid from the shelf. -/
theorem shelf : Shelf where
  len := fun x w h0 h1 => Tryz.bits_Len64 x w h0 h1
  err := fun L k fn s base bits w hk hs hL => by
    rcases hk with rfl | rfl
    · obtain ⟨ev, hv, hev⟩ := hL.v2
      refine (Tryz.strconv_toError_range fn s base bits ev w (by omega) hv hev).mono ?_
      rintro e w' ⟨N, rfl, -, -, hb⟩
      exact ⟨⟨_, rfl⟩, hb⟩
    · obtain ⟨ev, hv, hev⟩ := hL.v1
      refine (Tryz.strconv_toError_syntax fn s base bits ev w (by omega) hv hev).mono ?_
      rintro e w' ⟨N, rfl, -, -, hb⟩
      exact ⟨⟨_, rfl⟩, hb⟩
  int := fun L s hs => by
    cases h : Lib.parseIntB 64 s.data.toList with
    | ok v =>
      refine ⟨v, false, fun w hL hw => (Tryz.strconv_ParseInt_10_at64_ok s (by omega) v h w).mono ?_⟩
      rintro e w' ⟨rfl, hx⟩
      exact ⟨.nilIface, rfl, Or.inl ⟨rfl, rfl⟩, bytes_ext hx⟩
    | range =>
      refine ⟨Lib.intSat 64 s.data.toList, true, fun w hL hw => ?_⟩
      obtain ⟨ev, hv, hev⟩ := hL.v2
      refine (Tryz.strconv_ParseInt_10_at64_range s (by omega) h ev w hv hev).mono ?_
      rintro e w' ⟨N, rfl, -, -, hb⟩
      exact ⟨_, rfl, Or.inr ⟨rfl, _, rfl⟩, hb⟩
    | _ =>
      refine ⟨0, true, fun w hL hw => ?_⟩
      obtain ⟨ev, hv, hev⟩ := hL.v1
      refine (Any.strconv_ParseInt_10_at64_syntax Tryz.laysC174 s (by omega) h ev w hv hev).mono ?_
      rintro e w' ⟨N, rfl, -, -, hb⟩
      exact ⟨_, rfl, Or.inr ⟨rfl, _, rfl⟩, hb⟩

end Go.Proofs.YtcfgjmdfpnfkjaaGreatDoor
set_option linter.unusedVariables false
set_option linter.unusedSimpArgs false
namespace Go.Proofs.YtcfgjmdfpnfkjaaGreatDoor
open Go.ChangeShapes Go.WideShapes Go.ChangeAt Go.RowKit Pf

theorem own : ownKnob Tryz.prog.godebug = none := by kernel_rfl
theorem laid_thirteen {W : World} (h : laidMet Tryz.prog Rows.fnValDataUptoRow.laid W) : 13 < W.heap.size := by
  obtain ⟨ps, hl, -, -⟩ := h
  have r := Lib.LaidVars_reads hl "math/bits.deBruijn64tab" Rows.laid_math_bits_deBruijn64tab (by simp [Rows.fnValDataUptoRow])
  obtain ⟨cs, fuel, p, hc, hd⟩ := var_reads (g := 13) (t := 234) (by kernel_rfl) (by kernel_rfl) r
  obtain ⟨xs, m, -, -, hlen, -, -⟩ := DataW.trod_array Tryz.underlying234 hd
  have h64 : Tryz.prog.cellsOf 234 = 64 := by kernel_rfl
  have h0 := hc 0
  rw [List.getElem?_eq_getElem (by omega)] at h0
  exact World.block_lt_of_cell? W _ h0

/-- What the walk gives, for every argument and every world that holds the listed variables. -/
theorem contract (H : Type) (enc : TypeId × Value → H) (W : World) (base : Nat) (args : Array Value) (ds gs : List (DataW H)) (before : List MemPlace)
    (hW : DataW.Whole enc Tryz.prog Tryz.f3.params.toList Rows.fnValDataSpec.vars false W args.toList ds gs before) (hk : Rows.uptoSmall H (ds ++ gs) = true) (hL : laidMet Tryz.prog Rows.fnValDataUptoRow.laid W) :
    Calls Tryz.prog 3 args W fun e W' => ∃ v, e = .returned v ∧ Rows.fnValDataSpec.post enc Tryz.prog Tryz.f3 false true false false W args v W' := by
  have hW' := hW
  obtain ⟨p, q, hA0, hV, rfl, hfz, hnd⟩ := hW
  have hA : DataW.TrodAll enc Tryz.prog W 0 (fun _ => true) true Tryz.f3.params.toList args.toList ds p := hA0
  rw [Tryz.params3] at hA
  obtain ⟨v0, vs0, d0, ds0, p0, q0, hargs, rfl, rfl, h0, r0⟩ := trodAll_cons hA
  obtain ⟨rfl, rfl, rfl⟩ := trodAll_nil r0
  obtain rfl : args = #[v0] := by cases args; simp_all
  obtain ⟨rfl, rfl⟩ := trodVars_none hV
  have hb : Rows.uptoBulk d0 ≤ 1048576 := by
    have h := of_decide_eq_true hk
    simp only [List.append_nil, Rows.uptoBulkAll] at h
    omega
  obtain ⟨fuel, hf⟩ := h0
  obtain ⟨v, hv⟩ := at_of fuel _ _ hf hb
  obtain ⟨L, hLay⟩ := lay_of hL
  have h13 : 13 ≤ W.heap.size := Nat.le_of_lt (laid_thirteen hL)
  have h0 : DataW.Trod enc Tryz.prog W 0 (fun _ => true) true 24 v0 d0 p0 := ⟨fuel, hf⟩
  obtain ⟨k, r, l⟩ := v
  have hv' := hv
  simp only [GV.At] at hv'
  obtain ⟨A, c, hcs, -, -, -⟩ := hv'
  obtain rfl : v0 = .agg (gv k r A l.length c) := by
    have hl := congrArg List.length hcs
    cases v0 with
    | agg cs => exact congrArg Value.agg (Array.ext' hcs)
    | _ => simp [Value.cells] at hl
  refine (law_c ⟨shelf⟩ L _ _ W hLay h13 hv).mono fun e W' ⟨he, hE⟩ => ?_
  subst he
  simp only [List.append_nil] at hW'
  refine ⟨_, rfl, [d0], [], _, [], p0, [], hW', trodAll_cons_mk (shut_bool Tryz.underlying4 _) trodAll_mk0, ?_, rfl, hE.frame _, fun h => by cases h⟩
  refine ⟨p0, [], WideElems.Trod_stays (by kernel_rfl) (by kernel_rfl) (of_decide_eq_true (by kernel_rfl)) h0 (fun p hp => hE.same (hW'.lt p (by simpa using hp))) (fun p hp => by simpa using hW'.lt p (by simpa using hp)), rfl, by simp⟩

theorem reads (os : Os) {H : Type} (enc : TypeId × Value → H) : ∃ places, DataW.whole enc Tryz.prog ((laidWorld os).forCall (fun _ _ => 0) ⟨#[], zeroArg, []⟩).memory Tryz.f3.params.toList Rows.fnValDataSpec.vars false zeroArg.toList 8 = some ([.agg [.lit (.int .i64 0), .lit (.string []), .nil]], [], places) :=
  ⟨[], by kernel_rfl⟩

set_option maxRecDepth 100000 in
theorem liftedUpto (os : Os) (started : os.Started) (H : Type) (enc : TypeId × Value → H) (F : Stop.Interp) :
    ReturnsInHanded {} Tryz.checked os 3 .any ((Rows.OpenSpec.upto Rows.fnValDataSpec).preRow enc Tryz.prog Tryz.f3 Rows.fnValDataUptoRow.domain false Rows.fnValDataUptoRow.laid) (((Rows.OpenSpec.upto Rows.fnValDataSpec).at F).post enc Tryz.prog Tryz.f3 false true false false) := by
  obtain ⟨places, hx⟩ := reads os enc
  refine returnsInHanded_of_row (C := Tryz.checked) (s := Rows.OpenSpec.upto Rows.fnValDataSpec) own started (by kernel_rfl) Tryz.func3
    ⟨laidWorld os, fun _ _ => 0, ⟨#[], zeroArg, []⟩, rfl, World.shaped_of_ZipB (by kernel_rfl) (by kernel_rfl), rfl, (Input.okWide_of_okWideB (by kernel_rfl)).2,
      OpenSpec.preRow_of_cond 8 hx (by kernel_rfl) (fun k hk => by cases hk; kernel_rfl) (by kernel_rfl) (laid_met os), by simp [Assume.holds]⟩ ?_
  intro W base args ds gs before hval hW _ hcond _ hL _ _
  exact contract H enc W base args ds gs before hW (hcond _ rfl) hL

theorem saidUpto : Rows.FnValDataUptoSaid :=
  OpenClaim.holds_of_cond 3 Tryz.f3 rfl rfl rfl rfl rfl rfl rfl ⟨rfl, rfl, rfl, rfl, rfl⟩ rfl rfl rfl rfl rfl (by kernel_rfl) Tryz.func3 (by kernel_rfl)
    (of_decide_eq_true (by kernel_rfl)) (by unfold Func.isWrapper; first | (rw [if_pos (by decide +kernel)]; kernel_rfl) | (rw [if_neg (by decide +kernel)]; exact ⟨rfl, rfl⟩))
    (fun os started H enc _ F => by rw [OpenClaim.pre_eq_preRow]; exact liftedUpto os started H enc F)

/-- No parameter wants a stand-in; the program's own looks are off: what the card asks. -/
theorem plain (f : FuncId) (fn : Func) (hf : Tryz.pinned.checked.prog.funcNamed "given.example/pub-querent/laws.FnValData" = some f) (hfn : Tryz.pinned.checked.prog.funcs[f]? = some fn) :
    true = Tryz.pinned.checked.prog.looks [] ∧ ∀ (j : Nat) t, fn.params[j]? = some t → Tryz.pinned.checked.prog.wantsStandIn t = false := by
  obtain rfl : f = 3 := Option.some.inj ((show Tryz.prog.funcNamed "given.example/pub-querent/laws.FnValData" = some 3 by kernel_rfl).symm.trans hf) |>.symm
  obtain rfl : fn = Tryz.f3 := (Option.some.inj (Tryz.func3.symm.trans hfn)).symm
  refine ⟨by kernel_rfl, fun j t ht => ?_⟩
  rw [Tryz.params3] at ht
  obtain rfl : t = 24 := by simpa using Array.mem_of_getElem? ht
  exact (show Tryz.prog.wantsStandIn 24 = false by kernel_rfl)

/-- The second form's card. -/
theorem cardUpto : Rows.FnValDataUptoCardSaid :=
  Claim7.holds_tied_plain_at .later [] _ _ _ _ saidUpto (fun _ h => by cases h) (by kernel_rfl) (fun _ h => by cases h) fnValDataUpto_row_tie rfl ⟨rfl, rfl⟩ (by kernel_rfl) rfl plain (by kernel_rfl)

end Go.Proofs.YtcfgjmdfpnfkjaaGreatDoor
