/-
  FnAddressIsRead returns true, whatever the input; its arguments read behind the call as they did. Its card.
-/
import Derived.Test.YtmomkkakjkkakaaFmtCardM
import Derived.Test.YtmomkkakjkkakaaFmtFnA
import Derived.Deep.DeepWitnessRef
set_option linter.unusedVariables false
set_option linter.unusedSimpArgs false
set_option maxRecDepth 100000
namespace Go.Proofs.YtmomkkakjkkakaaFmt.fnAddressIsRead
open Go.ChangeShapes Go.WideShapes Go.ChangeAt Go.RowKit Go.Extern.Stop Go.Stop Go.Extern
open Go.ChangeMaps (open_string shut_string)

set_option maxHeartbeats 2000000 in
theorem contract (F : Interp) (H : Type) (enc : TypeId × Value → H) (W : World) (base : Nat) (args : Array Value) (ds gs : List (DataW H)) (before : List MemPlace) (hF : F.told.answers W.tape)
    (hval : ∀ (j : Nat) t v, Tryf.f11.params[j]? = some t → args[j]? = some v → Value.okWide Tryf.prog W .any base t v)
    (hW : DataW.Whole enc Tryf.prog Tryf.f11.params.toList Rows.fnAddressIsReadSpec.vars false W args.toList ds gs before) (hL : laidMetH Tryf.prog Rows.fnAddressIsReadRow.laid W) :
    Calls Tryf.prog 11 args W fun e W' => ∃ v, e = .returned v ∧ Rows.fnAddressIsReadSpec.post enc Tryf.prog Tryf.f11 false true false false W args v W' := by
  have hL' : laidMet Tryf.prog Rows.fnAddressIsReadRow.laid W := hL
  have hT : Tabs W := tabsOf hL' (by simp [Rows.fnAddressIsReadRow]) (by simp [Rows.fnAddressIsReadRow])
  have hO : Folds W := foldsOf hL' (by simp [Rows.fnAddressIsReadRow]) (by simp [Rows.fnAddressIsReadRow])
  have hW' := hW
  obtain ⟨p, q, hA0, hV, rfl, hfz, hnd⟩ := hW
  obtain ⟨rfl, rfl⟩ := trodVars_none hV
  simp only [List.append_nil] at hW' hfz hnd
  have hA : DataW.TrodAll enc Tryf.prog W 0 (fun _ => true) true Tryf.f11.params.toList args.toList ds p := hA0
  have hA1 := hA
  rw [Tryf.params11] at hA1 hval
  obtain ⟨v0, vs0, d0, ds0, p0, q0, hargs, rfl, rfl, h0, r0⟩ := trodAll_cons hA1
  obtain ⟨v1, vs1, d1, ds1, p1, q1, rfl, rfl, rfl, h1, r1⟩ := trodAll_cons r0
  obtain ⟨rfl, rfl, rfl⟩ := trodAll_nil r1
  obtain rfl : args = #[v0, v1] := by cases args; simp_all
  obtain ⟨s0, rfl, _, _, hs0⟩ := open_string Tryf.underlying9 (hval 0 9 v0 rfl rfl) h0
  obtain ⟨b1, rfl, _, _⟩ := open_bool Tryf.underlying4 (hval 1 4 v1 rfl rfl) h1
  refine (fnAddressIsRead_walk (F := F) s0 b1 W (by unfold maxLen at hs0; omega) hT hO hF).mono fun e W' ⟨he, hb⟩ => ?_
  subst he
  exact ⟨_, rfl, post_true (q := []) (p := []) laidOut hW' hA (by
    intro t ht
    rw [Tryf.params11] at ht
    simp only [List.mem_cons, List.mem_nil_iff, or_false] at ht
    rcases ht with rfl | rfl
    all_goals exact ⟨by kernel_rfl, of_decide_eq_true (by kernel_rfl)⟩) hb rfl rfl (by kernel_rfl) Tryf.underlying4⟩

theorem reads (os : Os) {H : Type} (enc : TypeId × Value → H) : ∃ places, DataW.whole enc Tryf.prog ((laidWorld5 os).forCall (fun _ _ => 0) ⟨#[], #[.string ⟨#[]⟩, .bool false], []⟩).memory Tryf.f11.params.toList Rows.fnAddressIsReadSpec.vars false #[Value.string ⟨#[]⟩, .bool false].toList 8 = some ([.lit (.string []), .lit (.bool false)], [], places) :=
  ⟨[], by kernel_rfl⟩

theorem lifted (os : Os) (started : os.Started) (H : Type) (enc : TypeId × Value → H) :
    ReturnsInTold none {} Tryf.checked os 11 .any Input.okWide ((OpenSpec.ofChange Rows.fnAddressIsReadSpec).preRow enc Tryf.prog Tryf.f11 Rows.fnAddressIsReadRow.domain false Rows.fnAddressIsReadRow.laid) (fun F => ((OpenSpec.ofChange Rows.fnAddressIsReadSpec).at F).post enc Tryf.prog Tryf.f11 false true false false) (aloneAtReturn Tryf.prog) nothingAlways := by
  obtain ⟨places, hx⟩ := reads os enc
  refine returnsInTold_of_row (C := Tryf.checked) (s := OpenSpec.ofChange Rows.fnAddressIsReadSpec) (by kernel_rfl) own started (by kernel_rfl) Tryf.func11
    (OpenSpec.witness_stopped_atRef (enc := enc) (C := Tryf.checked) false (laidWorld5 os) #[.string ⟨#[]⟩, .bool false] rfl (by kernel_rfl) (by kernel_rfl) (by kernel_rfl)
      (OpenSpec.preRow_of_cond 8 hx (by kernel_rfl) (fun k hk => by cases hk) (by kernel_rfl) (laid_met5 os _))) ?_
  intro F W base args ds gs before _ hF hval hW _ _ _ hL _
  exact contract F H enc W base args ds gs before hF hval hW hL

/-- THE CARD -/
theorem card : Rows.FnAddressIsReadToldSaid :=
  Claim7.holds_of_told_tied_any_at .later 11 Tryf.f11 "fmt.Sprintf" [] [] _ _ _ _ _ (by kernel_rfl) rfl rfl rfl laidOut (by kernel_rfl) rfl ⟨rfl, rfl, rfl, rfl, rfl, rfl, rfl⟩ rfl rfl (by kernel_rfl) (by kernel_rfl) Tryf.func11 (by kernel_rfl)
    (of_decide_eq_true (by kernel_rfl)) (of_decide_eq_true (by kernel_rfl)) stops.symm rfl stopKnobs.symm (by kernel_rfl)
    (by kernel_rfl) (by kernel_rfl) (by kernel_rfl) (by kernel_rfl) (by kernel_rfl) (by kernel_rfl) (by kernel_rfl) (by kernel_rfl) (by kernel_rfl) rfl (by kernel_rfl) rfl rfl
    rfl rfl
    rfl (by kernel_rfl) (by kernel_rfl) (by kernel_rfl) (by decide) (by kernel_rfl) fnAddressIsRead_row_tie
    (OpenClaim.moreEntering_of (by kernel_rfl) (by kernel_rfl) (by kernel_rfl) (by kernel_rfl) (by kernel_rfl) (by kernel_rfl) (by kernel_rfl) (by kernel_rfl) (by kernel_rfl) (by kernel_rfl))
    ⟨_, WideRow.started_initial, quiet _⟩
    (fun os started _ H enc _ => lifted os started H enc)
#print axioms card
end Go.Proofs.YtmomkkakjkkakaaFmt.fnAddressIsRead
