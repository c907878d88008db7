/- Parts of the proof of the statement that this folder hands in: lemmas and contracts (Ke). -/
import Derived.Test.YtgkjdgolffnagaaGreatDoorKbMg
set_option linter.unusedSimpArgs false
set_option linter.unusedVariables false
namespace Go.Proofs.YtgkjdgolffnagaaGreatDoor
open Go.RowKit

/-- The eight cells of an error as data. -/
abbrev je (kd : ByteArray) (P : Option Addr) (lp cp : Nat) (A : Option Addr) (ca : Nat) (N : Option Addr) (ln cn : Nat) (K : Option Addr) (lk ck : Nat) : Array Value :=
  #[.string one, .string kd, .slice P lp cp, .slice A 0 ca, .string ⟨#[]⟩, .slice none 0 0, .slice N ln cn, .slice K lk ck]

set_option maxRecDepth 100000 in
theorem path_schema (P : Option Addr) (cp : Nat) (A : Option Addr) (ca : Nat) (N : Option Addr) (ln cn : Nat) (K : Option Addr) (lk ck : Nat) (w : World) :
    Calls Tryz.prog 40 #[.agg (je sSchema P 0 cp A ca N ln cn K lk ck)] w fun e w' => e = .returned (.bool true) ∧ Ext w w' := by
  unfold sSchema
  go_enter Tryz.func40, Tryz.ntmps40
  go_wp2_with (go_at_call 78; refine (keyword_schema _).mono ?_; rintro e w' ⟨rfl, rfl⟩)
  go_ret
  exact ⟨rfl, (Ext.refl _).alloc _⟩
set_option maxRecDepth 100000 in
theorem path_false (P : Option Addr) (cp : Nat) (A : Option Addr) (ca : Nat) (N : Option Addr) (ln cn : Nat) (K : Option Addr) (lk ck : Nat) (w : World) :
    Calls Tryz.prog 40 #[.agg (je sFalse P 0 cp A ca N ln cn K lk ck)] w fun e w' => e = .returned (.bool true) ∧ Ext w w' := by
  unfold sFalse
  go_enter Tryz.func40, Tryz.ntmps40
  go_wp2_with (go_at_call 78; refine (keyword_false _).mono ?_; rintro e w' ⟨rfl, rfl⟩)
  go_ret
  exact ⟨rfl, (Ext.refl _).alloc _⟩
set_option maxRecDepth 100000 in
theorem path_uniq (P cp : Nat) (A : Option Addr) (ca : Nat) (N : Option Addr) (ln cn : Nat) (K : Option Addr) (lk ck : Nat) (w : World) (h : w.cell? ⟨P, 0, none⟩ = some (.string suniq)) :
    Calls Tryz.prog 40 #[.agg (je sUniq (some ⟨P, 0, none⟩) 1 cp A ca N ln cn K lk ck)] w fun e w' => e = .returned (.bool true) ∧ Ext w w' := by
  obtain ⟨hne1, hne2⟩ := str_ne (s := suniq) (by decide)
  have hcell := fun w' (e : Ext w w') => e.cell h
  have HH := Sd.mk h
  unfold sUniq
  go_enter Tryz.func40, Tryz.ntmps40
  go_wp2_with (go_at_call 78; refine (keyword_uniq _).mono ?_; rintro e w' ⟨rfl, he⟩; have hc := he.cell (((Ext.refl w).alloc _).cell HH.out); have hb := box_cell (box_ext (box_alloc _ _) he); have HE := Sd.mk (((Ext.refl w).alloc _).trans he); clear he)
  go_ret
  exact ⟨rfl, HE.out⟩

/-- No keywords of numbers. -/
abbrev keep0 : Array Value := #[.slice none 0 0, .slice none 0 0, .slice none 0 0, .slice none 0 0, .slice none 0 0]
theorem s82 : (Tryz.prog.info? 82).map (·.size) = some 5 := by kernel_rfl
set_option maxRecDepth 100000 in
theorem keep_c (b : Nat) (w : World) : Calls Tryz.prog 33 #[.agg #[.slice (some ⟨b, 0, none⟩) 1 1, .slice none 0 0], .int .i64 1] w fun e w' => e = .returned (.agg keep0) ∧ Ext w w' := by
  go_enter Tryz.func33, Tryz.ntmps33
  go_wp2_with fail
  (try simp only [Exit.inBlock, Exit.then])
  refine bodyPost_ret (v := .agg keep0) ?_ rfl ⟨rfl, ((Ext.refl _).alloc _).alloc _⟩
  exact results_cell_row rfl _ _ (w.heap.size + 1) 82 _ (0, 0) _ rfl (box_alloc2 _ _ _) Tryz.underlying82 rfl s82

set_option maxRecDepth 100000 in
theorem number_c (k : Int) (b : Bool) (n : Int) (t : ByteArray) (A : Option Addr) (la c : Nat) (B : Option Addr) (lb d : Nat) (hk : k ≠ 2) (kd : ByteArray) (P : Option Addr) (lp cp : Nat) (A' : Option Addr) (ca : Nat) (N : Option Addr) (ln cn : Nat) (K : Option Addr) (lk ck : Nat) (w : World) :
    Calls Tryz.prog 81 #[.agg keep0, .agg (jv k b n t A la c B lb d), .agg (je kd P lp cp A' ca N ln cn K lk ck)] w fun e w' => e = .returned (.bool false) ∧ Ext w w' := by
  have h : (k != 2) = true := by simpa using hk
  go_enter Tryz.func81, Tryz.ntmps81
  go_wp2_with fail
  go_ret
  exact ⟨rfl, (((Ext.refl _).alloc _).alloc _).alloc _⟩

set_option maxHeartbeats 4000000 in
set_option maxRecDepth 100000 in
theorem value_c (k' : Int) (u : Bool) (k : Int) (b : Bool) (n : Int) (t : ByteArray) (A : Option Addr) (la c : Nat) (B : Option Addr) (lb d : Nat) (ht : t.size ≤ 1048576) (P : Option Addr) (lp cp : Nat) (A' : Option Addr) (ca : Nat) (N : Option Addr) (ln cn : Nat) (w : World) :
    Calls Tryz.prog 80 #[.agg (node k' u), .agg (jv k b n t A la c B lb d), .agg (je sUniq P lp cp A' ca N ln cn none 0 0)] w fun e w' => e = .returned (.bool false) ∧ Ext w w' := by
  have HT := Sd.mk ht
  clear ht
  unfold sUniq
  go_enter Tryz.func80, Tryz.ntmps80
  go_wp2_with (go_at_call 35; refine (runes_any _ _ HT.out).mono ?_; rintro e w' ⟨⟨n, rfl⟩, rfl⟩)
  go_ret
  exact ⟨rfl, (((Ext.refl _).alloc _).alloc _).alloc _⟩

set_option maxHeartbeats 4000000 in
set_option maxRecDepth 100000 in
theorem place_schema (J : Array Value) (k' : Int) (u : Bool) (k : Int) (b : Bool) (n : Int) (t : ByteArray) (A : Option Addr) (la c : Nat) (B : Option Addr) (lb d : Nat) (P : Option Addr) (lp cp : Nat) (A' : Option Addr) (ca : Nat) (N : Option Addr) (ln cn : Nat) (K : Option Addr) (ck : Nat) (w : World) :
    Calls Tryz.prog 79 #[.int .i64 2020, .agg J, .agg (node k' u), .agg (jv k b n t A la c B lb d), .agg (je sSchema P lp cp A' ca N ln cn K 1 ck)] w fun e w' => e = .returned (.bool true) ∧ Ext w w' := by
  unfold sSchema
  go_enter Tryz.func79, Tryz.ntmps79
  go_wp2_with fail
  go_ret
  exact ⟨rfl, ((((Ext.refl _).alloc _).alloc _).alloc _).alloc _⟩
set_option maxHeartbeats 4000000 in
set_option maxRecDepth 100000 in
theorem place_uniq (J : Array Value) (k' : Int) (u : Bool) (k : Int) (b : Bool) (n : Int) (t : ByteArray) (A : Option Addr) (la c : Nat) (B : Option Addr) (lb d : Nat) (P : Option Addr) (lp cp : Nat) (A' : Option Addr) (ca : Nat) (N : Option Addr) (ln cn : Nat) (K : Option Addr) (lk ck : Nat) (w : World) :
    Calls Tryz.prog 79 #[.int .i64 2020, .agg J, .agg (node k' u), .agg (jv k b n t A la c B lb d), .agg (je sUniq P lp cp A' ca N ln cn K lk ck)] w fun e w' => e = .returned (.bool false) ∧ Ext w w' := by
  unfold sUniq
  go_enter Tryz.func79, Tryz.ntmps79
  go_wp2_with fail
  go_ret
  exact ⟨rfl, ((((Ext.refl _).alloc _).alloc _).alloc _).alloc _⟩

end Go.Proofs.YtgkjdgolffnagaaGreatDoor
