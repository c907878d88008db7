/- For every JSON value whose reading is of bulk at most 1048576, laws.FnJTellUnique returns true and its argument reads afterwards as it read before. Conditions: the bound on the bulk (the second form), and the three listed tables of the library (math/bits.deBruijn32tab, deBruijn64tab, internal/strconv.uint64pow10) hold what the text lays, which the card ties. -/
import Derived.Test.YtgkjdgolffnagaaGreatDoorXk
import Derived.Test.YtgkjdgolffnagaaGreatDoorAMg
import Derived.Test.YtgkjdgolffnagaaGreatDoorCards
import Derived.Test.YtgkjdgolffnagaaGreatDoorTie
import Derived.WalkKit
import Derived.ProofKit
import Derived.OpenShut
import Derived.Deep.DeepHandedRow
import Derived.Lib.LaidTab
set_option linter.unusedSimpArgs false
set_option linter.unusedVariables false
namespace Go.Proofs.YtgkjdgolffnagaaGreatDoor
open Go.ChangeShapes Go.WideShapes Go.ChangeAt Go.RowKit

theorem own : ownKnob Tryz.prog.godebug = none := by kernel_rfl

/-- WHAT THE WALK GIVES, FOR EVERY ARGUMENT AND EVERY WORLD. -/
theorem contract (H : Type) (enc : TypeId × Value → H) (W : World) (base : Nat) (args : Array Value) (ds gs : List (DataW H)) (before : List MemPlace)
    (hW : DataW.Whole enc Tryz.prog Tryz.f3.params.toList Rows.fnJTellUniqueSpec.vars false W args.toList ds gs before) (hk : Rows.uptoSmall H (ds ++ gs) = true) :
    Calls Tryz.prog 3 args W fun e W' => ∃ v, e = .returned v ∧ Rows.fnJTellUniqueSpec.post enc Tryz.prog Tryz.f3 false true false false W args v W' := by
  have hW' := hW
  obtain ⟨p, q, hA0, hV, rfl, hfz, hnd⟩ := hW
  have hA : DataW.TrodAll enc Tryz.prog W 0 (fun _ => true) true Tryz.f3.params.toList args.toList ds p := hA0
  rw [Tryz.params3] at hA
  obtain ⟨v0, vs0, d0, ds0, p0, q0, hargs, rfl, rfl, h0, r0⟩ := trodAll_cons hA
  obtain ⟨rfl, rfl, rfl⟩ := trodAll_nil r0
  obtain rfl : args = #[v0] := by cases args; simp_all
  obtain ⟨rfl, rfl⟩ := trodVars_none hV
  have hb : Rows.uptoBulk d0 ≤ 1048576 := by
    have h := of_decide_eq_true hk
    simp only [List.append_nil, Rows.uptoBulkAll] at h
    omega
  obtain ⟨fuel, hf⟩ := h0
  obtain ⟨v, hv⟩ := at_of fuel _ _ hf hb
  have h0 : DataW.Trod enc Tryz.prog W 0 (fun _ => true) true 25 v0 d0 p0 := ⟨fuel, hf⟩
  obtain ⟨k, b, n, t, ns, is⟩ := v
  have hv' := hv
  simp only [JV.At] at hv'
  obtain ⟨A, c, B, d, hcs, -, -, -, -⟩ := hv'
  obtain rfl : v0 = .agg (jv k b n t A ns.length c B is.length d) := by
    have hl := congrArg List.length hcs
    cases v0 with
    | agg cs => exact congrArg Value.agg (Array.ext' hcs)
    | _ => simp [Value.cells] at hl
  refine (law_c _ k b n t A _ c B _ d W (hcs ▸ hv)).mono fun e W' ⟨he, hE⟩ => ?_
  subst he
  simp only [List.append_nil] at hW'
  refine ⟨_, rfl, [d0], [], _, [], p0, [], hW', trodAll_cons_mk (shut_bool Tryz.underlying4 _) trodAll_mk0, ?_, rfl, hE.frame _, fun h => by cases h⟩
  refine ⟨p0, [], WideElems.Trod_stays (by kernel_rfl) (by kernel_rfl) (of_decide_eq_true (by kernel_rfl)) h0 (fun p hp => hE.same (hW'.lt p (by simpa using hp))) (fun p hp => by simpa using hW'.lt p (by simpa using hp)), rfl, by simp⟩

/-- A block's cells, laid. -/
def relaid (cs : Array Value) : Obj → Obj
  | .cells _ t frozen => .cells cs t frozen
  | o => o
/-- A WORLD FOR THE WITNESS: the settled one, the three tables holding what their initialisers lay. -/
noncomputable def laidWorld (os : Os) (args : Array Value) : World :=
  { World.holding Tryz.prog os ⟨#[], #[], []⟩ with heap := (((World.holding Tryz.prog os ⟨#[], #[], []⟩).heap.modify 0 (relaid #[.int .u64 1, .int .u64 10, .int .u64 100, .int .u64 1000, .int .u64 10000, .int .u64 100000, .int .u64 1000000, .int .u64 10000000, .int .u64 100000000, .int .u64 1000000000, .int .u64 10000000000, .int .u64 100000000000, .int .u64 1000000000000, .int .u64 10000000000000, .int .u64 100000000000000, .int .u64 1000000000000000, .int .u64 10000000000000000, .int .u64 100000000000000000, .int .u64 1000000000000000000, .int .u64 10000000000000000000])).modify 2 (relaid #[.int .u8 0, .int .u8 1, .int .u8 28, .int .u8 2, .int .u8 29, .int .u8 14, .int .u8 24, .int .u8 3, .int .u8 30, .int .u8 22, .int .u8 20, .int .u8 15, .int .u8 25, .int .u8 17, .int .u8 4, .int .u8 8, .int .u8 31, .int .u8 27, .int .u8 13, .int .u8 23, .int .u8 21, .int .u8 19, .int .u8 16, .int .u8 7, .int .u8 26, .int .u8 12, .int .u8 18, .int .u8 6, .int .u8 11, .int .u8 5, .int .u8 10, .int .u8 9])).modify 3 (relaid #[.int .u8 0, .int .u8 1, .int .u8 56, .int .u8 2, .int .u8 57, .int .u8 49, .int .u8 28, .int .u8 3, .int .u8 61, .int .u8 58, .int .u8 42, .int .u8 50, .int .u8 38, .int .u8 29, .int .u8 17, .int .u8 4, .int .u8 62, .int .u8 47, .int .u8 59, .int .u8 36, .int .u8 45, .int .u8 43, .int .u8 51, .int .u8 22, .int .u8 53, .int .u8 39, .int .u8 33, .int .u8 30, .int .u8 24, .int .u8 18, .int .u8 12, .int .u8 5, .int .u8 63, .int .u8 55, .int .u8 48, .int .u8 27, .int .u8 60, .int .u8 41, .int .u8 37, .int .u8 16, .int .u8 46, .int .u8 35, .int .u8 44, .int .u8 21, .int .u8 52, .int .u8 32, .int .u8 23, .int .u8 11, .int .u8 54, .int .u8 26, .int .u8 40, .int .u8 15, .int .u8 34, .int .u8 20, .int .u8 31, .int .u8 10, .int .u8 25, .int .u8 14, .int .u8 19, .int .u8 9, .int .u8 13, .int .u8 8, .int .u8 7, .int .u8 6]) }
noncomputable def zeroArg : Array Value := #[.agg (jv 0 false 0 ⟨#[]⟩ none 0 0 none 0 0)]
theorem laid_met (os : Os) : laidMet Tryz.prog Rows.fnJTellUniqueUptoRow.laid ((laidWorld os zeroArg).forCall (fun _ _ => 0) ⟨#[], zeroArg, []⟩).memory :=
  laidMet_of_run' 8 (by kernel_rfl) (by kernel_rfl)
theorem reads (os : Os) {H : Type} (enc : TypeId × Value → H) : ∃ places, DataW.whole enc Tryz.prog ((laidWorld os zeroArg).forCall (fun _ _ => 0) ⟨#[], zeroArg, []⟩).memory Tryz.f3.params.toList Rows.fnJTellUniqueSpec.vars false zeroArg.toList 8 = some ([.agg [.lit (.int .i64 0), .lit (.bool false), .lit (.int .i64 0), .lit (.string []), .nil, .nil]], [], places) :=
  ⟨[], by kernel_rfl⟩

set_option maxRecDepth 100000 in
theorem liftedUpto (os : Os) (started : os.Started) (H : Type) (enc : TypeId × Value → H) (F : Stop.Interp) :
    ReturnsInHanded {} Tryz.checked os 3 .any ((Rows.OpenSpec.upto Rows.fnJTellUniqueSpec).preRow enc Tryz.prog Tryz.f3 Rows.fnJTellUniqueUptoRow.domain false Rows.fnJTellUniqueUptoRow.laid) (((Rows.OpenSpec.upto Rows.fnJTellUniqueSpec).at F).post enc Tryz.prog Tryz.f3 false true false false) := by
  obtain ⟨places, hx⟩ := reads os enc
  refine returnsInHanded_of_row (C := Tryz.checked) (s := Rows.OpenSpec.upto Rows.fnJTellUniqueSpec) own started (by kernel_rfl) Tryz.func3
    (witness_row_at (enc := enc) (C := Tryz.checked) false (laidWorld os zeroArg) zeroArg rfl (by kernel_rfl) (by kernel_rfl) (by kernel_rfl)
      (OpenSpec.preRow_of_cond 8 hx (by kernel_rfl) (fun k hk => by cases hk; kernel_rfl) (by kernel_rfl) (laid_met os))) ?_
  intro W base args ds gs before hval hW _ hcond _ hL _ _
  exact contract H enc W base args ds gs before hW (hcond _ rfl)

theorem saidUpto : Rows.FnJTellUniqueUptoSaid :=
  OpenClaim.holds_of_cond 3 Tryz.f3 rfl rfl rfl rfl rfl rfl rfl ⟨rfl, rfl, rfl, rfl, rfl⟩ rfl rfl rfl rfl rfl (by kernel_rfl) Tryz.func3 (by kernel_rfl)
    (of_decide_eq_true (by kernel_rfl)) (by unfold Func.isWrapper; first | (rw [if_pos (by decide +kernel)]; kernel_rfl) | (rw [if_neg (by decide +kernel)]; exact ⟨rfl, rfl⟩))
    (fun os started H enc _ F => by rw [OpenClaim.pre_eq_preRow]; exact liftedUpto os started H enc F)

/-- No parameter wants a stand-in; the program's own looks are off: what the card asks. -/
theorem plain (f : FuncId) (fn : Func) (hf : Tryz.pinned.checked.prog.funcNamed "given.example/pub-querent/laws.FnJTellUnique" = some f) (hfn : Tryz.pinned.checked.prog.funcs[f]? = some fn) :
    true = Tryz.pinned.checked.prog.looks [] ∧ ∀ (j : Nat) t, fn.params[j]? = some t → Tryz.pinned.checked.prog.wantsStandIn t = false := by
  obtain rfl : f = 3 := Option.some.inj ((show Tryz.prog.funcNamed "given.example/pub-querent/laws.FnJTellUnique" = some 3 by kernel_rfl).symm.trans hf) |>.symm
  obtain rfl : fn = Tryz.f3 := (Option.some.inj (Tryz.func3.symm.trans hfn)).symm
  refine ⟨by kernel_rfl, fun j t ht => ?_⟩
  rw [Tryz.params3] at ht
  obtain rfl : t = 25 := by simpa using Array.mem_of_getElem? ht
  exact (show Tryz.prog.wantsStandIn 25 = false by kernel_rfl)

/-- THE SECOND FORM's CARD. -/
theorem cardUpto : Rows.FnJTellUniqueUptoCardSaid :=
  Claim7.holds_tied_plain_at .later [] _ _ _ _ saidUpto (fun _ h => by cases h) (by kernel_rfl) (fun _ h => by cases h) fnJTellUniqueUpto_row_tie rfl ⟨rfl, rfl⟩ (by kernel_rfl) rfl plain (by kernel_rfl)

end Go.Proofs.YtgkjdgolffnagaaGreatDoor
