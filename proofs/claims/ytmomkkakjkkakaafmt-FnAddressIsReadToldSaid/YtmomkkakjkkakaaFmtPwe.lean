/-
  printWithEscape, whatever the escape is: joined.
-/
import Derived.Test.YtmomkkakjkkakaaFmtPwh
set_option linter.unusedVariables false
namespace Go.Proofs.YtmomkkakjkkakaaFmt
open Go.RowKit Go.Kit Go.Extern.Stop Go.Stop Go.Extern

theorem pwe_any {F : Interp} {w : World} {B : Nat} {ascii : Bool} {v : Value} {d : List UInt8} {c e : Nat} {x : ByteArray} {may : Bool} (h : Pr w B ascii v d) (g : Pl.Good (c, e)) (hd : d.length ≤ 35184372088832) {t : List Nat} (hx : Str x (c :: t)) (hok : ∀ y ∈ t, Pl.Ok y) (hxs : x.size ≤ 1099511627776) (hF : F.told.answers w.tape) :
    Calls Tryf.prog 69 #[.pointer (some ⟨B, 0, none⟩), .int .i32 c, .int .u8 e, .string x, .bool may] w fun e' w' => PrOut B ascii w (d ++ Pl.encs (Pl.pweF c e t.head? may)) e' w' := by
  rcases Pl.escK_cases (c, e) g with h0 | h0 | h0 <;> simp only at h0
  · obtain rfl := Pl.escK_zero h0
    rw [Pl.pweF_raw h0, Pl.encs_cons, Pl.encs_nil, List.append_nil]
    exact pwe_none h g.ok hd
  · obtain ⟨rfl, hh⟩ := Pl.escK_one h0
    rw [Pl.pweF_back h0, Pl.encs_cons, Pl.encs_cons, Pl.encs_nil, List.append_nil, show Pl.enc 92 = [92] from enc1 (by omega), ← List.append_assoc]
    exact pwe_back h g.ok hd hh
  · have he : e = 2 ∨ (e = 1 ∧ 0 ≤ Pl.hexv c) := by
      unfold Pl.escK at h0
      split at h0
      · rename_i q; exact .inr q
      · exact .inl h0
    rw [Pl.pweF_hex h0]
    exact pwe_hex h g.ok hd he hx hok hxs hF
end Go.Proofs.YtmomkkakjkkakaaFmt
