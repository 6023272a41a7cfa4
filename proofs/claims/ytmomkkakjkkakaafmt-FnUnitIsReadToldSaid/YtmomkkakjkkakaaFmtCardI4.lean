/-
  FnUnitIsRead returns true, whatever the input; its arguments read behind the call as they did. Its card.
-/
import Derived.Test.YtmomkkakjkkakaaFmtCardK
import Derived.Test.YtmomkkakjkkakaaFmtFnU
set_option linter.unusedVariables false
set_option linter.unusedSimpArgs false
set_option maxRecDepth 100000
namespace Go.Proofs.YtmomkkakjkkakaaFmt.fnUnitIsRead
open Go.ChangeShapes Go.WideShapes Go.ChangeAt Go.RowKit Go.Extern.Stop Go.Stop Go.Extern
open Go.ChangeMaps (open_string shut_string)

theorem contract (F : Interp) (H : Type) (enc : TypeId × Value → H) (W : World) (base : Nat) (args : Array Value) (ds gs : List (DataW H)) (before : List MemPlace) (hF : F.told.answers W.tape)
    (hval : ∀ (j : Nat) t v, Tryf.f7.params[j]? = some t → args[j]? = some v → Value.okWide Tryf.prog W .any base t v)
    (hW : DataW.Whole enc Tryf.prog Tryf.f7.params.toList Rows.fnUnitIsReadSpec.vars false W args.toList ds gs before) (hL : laidMetH Tryf.prog Rows.fnUnitIsReadRow.laid W) :
    Calls Tryf.prog 7 args W fun e W' => ∃ v, e = .returned v ∧ Rows.fnUnitIsReadSpec.post enc Tryf.prog Tryf.f7 false true false false W args v W' := by
  have hL' : laidMet Tryf.prog Rows.fnUnitIsReadRow.laid W := hL
  have hT : Tabs W := tabsOf hL' (by simp [Rows.fnUnitIsReadRow]) (by simp [Rows.fnUnitIsReadRow])
  have hW' := hW
  obtain ⟨p, q, hA0, hV, rfl, hfz, hnd⟩ := hW
  obtain ⟨rfl, rfl⟩ := trodVars_none hV
  simp only [List.append_nil] at hW' hfz hnd
  have hA : DataW.TrodAll enc Tryf.prog W 0 (fun _ => true) true Tryf.f7.params.toList args.toList ds p := hA0
  have hA1 := hA
  rw [Tryf.params7] at hA1 hval
  obtain ⟨v0, vs0, d0, ds0, p0, q0, hargs, rfl, rfl, h0, r0⟩ := trodAll_cons hA1
  obtain ⟨v1, vs1, d1, ds1, p1, q1, rfl, rfl, rfl, h1, r1⟩ := trodAll_cons r0
  obtain ⟨v2, vs2, d2, ds2, p2, q2, rfl, rfl, rfl, h2, r2⟩ := trodAll_cons r1
  obtain ⟨v3, vs3, d3, ds3, p3, q3, rfl, rfl, rfl, h3, r3⟩ := trodAll_cons r2
  obtain ⟨rfl, rfl, rfl⟩ := trodAll_nil r3
  obtain rfl : args = #[v0, v1, v2, v3] := by cases args; simp_all
  obtain ⟨s0, rfl, _, _, hs0⟩ := open_string Tryf.underlying9 (hval 0 9 v0 rfl rfl) h0
  obtain ⟨a1, n1, cap1, f1, rfl, hn1, hB1⟩ := open_bytes (hval 1 31 v1 rfl rfl) h1
  obtain ⟨z2, rfl, _, _, wz2⟩ := open_int Tryf.underlying3 (hval 2 3 v2 rfl rfl) h2
  obtain ⟨b3, rfl, _, _⟩ := open_bool Tryf.underlying4 (hval 3 4 v3 rfl rfl) h3
  refine (fnUnitIsRead_walk (F := F) s0 a1 n1 cap1 f1 z2 b3 W (by unfold maxLen at hs0; omega) hn1 hB1 hT hF).mono fun e W' ⟨he, hb⟩ => ?_
  subst he
  exact ⟨_, rfl, post_true (q := []) (p := []) laidOut hW' hA (by
    intro t ht
    rw [Tryf.params7] at ht
    simp only [List.mem_cons, List.mem_nil_iff, or_false] at ht
    rcases ht with rfl | rfl | rfl | rfl
    all_goals exact ⟨by kernel_rfl, of_decide_eq_true (by kernel_rfl)⟩) hb rfl rfl (by kernel_rfl) Tryf.underlying4⟩

theorem reads (os : Os) {H : Type} (enc : TypeId × Value → H) : ∃ places, DataW.whole enc Tryf.prog ((laidWorld os).forCall (fun _ _ => 0) ⟨#[], #[.string ⟨#[]⟩, .slice none 0 0, .int .i64 0, .bool false], []⟩).memory Tryf.f7.params.toList Rows.fnUnitIsReadSpec.vars false #[Value.string ⟨#[]⟩, .slice none 0 0, .int .i64 0, .bool false].toList 8 = some ([.lit (.string []), .nil, .lit (.int .i64 0), .lit (.bool false)], [], places) :=
  ⟨[], by kernel_rfl⟩

theorem lifted (os : Os) (started : os.Started) (H : Type) (enc : TypeId × Value → H) :
    ReturnsInTold none {} Tryf.checked os 7 .any Input.okWide ((OpenSpec.ofChange Rows.fnUnitIsReadSpec).preRow enc Tryf.prog Tryf.f7 Rows.fnUnitIsReadRow.domain false Rows.fnUnitIsReadRow.laid) (fun F => ((OpenSpec.ofChange Rows.fnUnitIsReadSpec).at F).post enc Tryf.prog Tryf.f7 false true false false) (aloneAtReturn Tryf.prog) nothingAlways := by
  obtain ⟨places, hx⟩ := reads os enc
  refine returnsInTold_of_row (C := Tryf.checked) (s := OpenSpec.ofChange Rows.fnUnitIsReadSpec) (by kernel_rfl) own started (by kernel_rfl) Tryf.func7
    (OpenSpec.witness_stopped_at (enc := enc) (C := Tryf.checked) false (laidWorld os) #[.string ⟨#[]⟩, .slice none 0 0, .int .i64 0, .bool false] rfl (by kernel_rfl) (by kernel_rfl) (by kernel_rfl)
      (OpenSpec.preRow_of_cond 8 hx (by kernel_rfl) (fun k hk => by cases hk) (by kernel_rfl) (laid_met os _))) ?_
  intro F W base args ds gs before _ hF hval hW _ _ _ hL _
  exact contract F H enc W base args ds gs before hF hval hW hL

/-- THE CARD -/
theorem card : Rows.FnUnitIsReadToldSaid :=
  Claim7.holds_of_told_tied_any_at .later 7 Tryf.f7 "fmt.Sprintf" [] [] _ _ _ _ _ (by kernel_rfl) rfl rfl rfl laidOut (by kernel_rfl) rfl ⟨rfl, rfl, rfl, rfl, rfl, rfl, rfl⟩ rfl rfl (by kernel_rfl) (by kernel_rfl) Tryf.func7 (by kernel_rfl)
    (of_decide_eq_true (by kernel_rfl)) (of_decide_eq_true (by kernel_rfl)) stops.symm rfl stopKnobs.symm (by kernel_rfl)
    (by kernel_rfl) (by kernel_rfl) (by kernel_rfl) (by kernel_rfl) (by kernel_rfl) (by kernel_rfl) (by kernel_rfl) (by kernel_rfl) (by kernel_rfl) rfl (by kernel_rfl) rfl rfl
    rfl rfl
    rfl (by kernel_rfl) (by kernel_rfl) (by kernel_rfl) (by decide) (by kernel_rfl) fnUnitIsRead_row_tie
    (OpenClaim.moreEntering_of (by kernel_rfl) (by kernel_rfl) (by kernel_rfl) (by kernel_rfl) (by kernel_rfl) (by kernel_rfl) (by kernel_rfl) (by kernel_rfl) (by kernel_rfl) (by kernel_rfl))
    ⟨_, WideRow.started_initial, quiet _⟩
    (fun os started _ H enc _ => lifted os started H enc)
#print axioms card
end Go.Proofs.YtmomkkakjkkakaaFmt.fnUnitIsRead
