/-
  WALK of the statement on a name with another name behind it: true at every two names.
-/
import Derived.Test.YtmomkkakjkkakaaFmtFnI
import Derived.Deep.DeepCutAuto
set_option linter.unusedVariables false
set_option linter.unusedSimpArgs false
set_option maxRecDepth 100000
namespace Go.Proofs.YtmomkkakjkkakaaFmt
open Go.RowKit Go.Kit Go.Extern.Stop Go.Stop Go.Extern

theorem name_behind {s : ByteArray} {r : List Nat} (h : NameR (⟨#[120]⟩ ++ s) r) : ∃ t, s = S (Pl.encs t) ∧ ∀ c ∈ t, Pl.Ok c := by
  refine plain_x (r := r) ⟨h.txt, h.ok, ?_⟩
  intro e
  have h1 := h.txt
  rw [show (⟨#[120]⟩ ++ s : ByteArray).data.toList = 120 :: s.data.toList by simp [ByteArray.data_append]] at h1
  cases r with
  | nil => simp at e
  | cons c t =>
    simp only [List.head?_cons, Option.some.injEq] at e
    subst e
    rw [Pl.encs_cons, enc3 (by omega)] at h1
    have := congrArg List.head? h1
    simp at this
theorem ends_only {ascii : Bool} {r b : List Nat} (hr : r ≠ []) (h : ∀ c ∈ r, Pl.Ok c) (hb : ∀ c ∈ b, c < 128 ∧ Pl.contsB (c : Int) = true) (hok : ∀ c ∈ b, Pl.Ok c) (hl : (Pl.encs (Pl.identF 0 true ascii r)).length + (Pl.encs b).length ≤ 1099511627776) (W : World) :
    Calls Tryf.prog 16 #[.string (S (Pl.encs (Pl.identF 0 true ascii r)) ++ S (Pl.encs b))] W fun e w' => OneIs 29 0 (Pl.encs (r ++ b)) W e w' := by
  rw [S_append, ← Pl.encs_append]
  have ht := Pl.ident_tok (mode := 0) (may := true) (ascii := ascii) (X := b) (T := (Pl.encs (Pl.identF 0 true ascii r ++ b)).length) (by decide) hr h (.inr ⟨rfl, fun c hc => (hb c hc).2⟩)
  have h62 : Pl.pk b 0 ≠ 62 := by
    cases b with
    | nil => decide
    | cons c t => rw [Pl.pk_cons]; exact (Pl.conts_not (hb c (by simp)).2).1
  have h47 := (Pl.ident_head (mode := 0) (may := true) (ascii := ascii) (r := r) (X := b) (by decide) hr h h62).ne.2.2.2.2.2.1
  refine only_is (fun c hc => ?_) ?_ (by rw [Pl.encs_append, List.length_append]; omega) (Pl.toks_one h47 (show (29 : Nat) ≠ 0 by decide) ht) W
  · rcases List.mem_append.mp hc with hc | hc
    · exact Pl.ident_ok h c hc
    · exact hok c hc
  · have h1 := Pl.ident_first (mode := 0) (may := true) (ascii := ascii) h
    cases hI : Pl.identF 0 true ascii r with
    | nil =>
      cases b with
      | nil => simp
      | cons c t => have := (hb c (by simp)).1; simp; omega
    | cons c t => rw [hI] at h1; simpa using h1
/-- is a byte a sign of names -/
def nameV (v : Int) : Bool := decide (v = 45 ∨ v = 95 ∨ (48 ≤ v ∧ v ≤ 57) ∨ (65 ≤ v ∧ v ≤ 90) ∨ (97 ≤ v ∧ v ≤ 122))
theorem nameV_bt {x : ByteArray} {j : Nat} (h : nameV (bt x j) = true) : bt x j < 128 ∧ Pl.contsB (bt x j) = true := by
  simp only [nameV, decide_eq_true_eq] at h
  simp only [Pl.contsB, decide_eq_true_eq]
  omega
set_option maxHeartbeats 400000 in
theorem fnIdentEnds_walk {F : Interp} (s x : ByteArray) (ascii : Bool) (w : World) (hs : s.size ≤ 9223372036854775807) (hx : x.size ≤ 9223372036854775807) (hT : Tabs w) (hF : F.told.answers w.tape) :
    Calls Tryf.prog 4 #[.string s, .string x, .bool ascii] w fun e w' => e = .returned (.bool true) ∧ Below w.heap.size w w' := by
  by_cases h1 : 2147483647 < s.size
  · go_enter Tryf.func4, Tryf.ntmps4
    go_wp2_with fail
    go_ret
    exact ⟨rfl, Below.refl _ _⟩
  by_cases h2 : 2147483647 < x.size
  · go_enter Tryf.func4, Tryf.ntmps4
    go_wp2_with fail
    go_ret
    exact ⟨rfl, Below.refl _ _⟩
  have hxs : (⟨#[120]⟩ ++ x : ByteArray).size = 1 + x.size := by rw [ByteArray.size_append]; rfl
  rcases isName_det (s := s) (by omega) with ⟨r, hr, hN⟩ | hN
  rcases isName_det (s := ⟨#[120]⟩ ++ x) (by omega) with ⟨r', hr', hN'⟩ | hN'
  · obtain ⟨b, rfl, hbok⟩ := name_behind hr'
    obtain rfl : s = S (Pl.encs r) := by rw [← hr.txt, S_of]
    have hsz : (S (Pl.encs r)).size = (Pl.encs r).length := S_size _
    have hsb : (S (Pl.encs b)).size = (Pl.encs b).length := S_size _
    have hl := ident_len (m := 0) (may := true) (ascii := ascii) hr.ok
    have HI := Lib.hid (show ∀ W, Tabs W → F.told.answers W.tape → Calls Tryf.prog 15 #[.string (S (Pl.encs r)), .int .i64 0, .int .i64 0, .bool ascii] W fun e w' => e = .returned (.string (S (Pl.encs (Pl.identF 0 true ascii r)))) ∧ Below W.heap.size W w' from
      fun W h1 h2 => ident_any (ascii := ascii) (m := 0) (ws := 0) (by omega) (by omega) (Str.of r) hr.ne hr.ok (by omega) h1 h2)
    have HO := Lib.hid (fun hb W => ends_only (ascii := ascii) hr.ne hr.ok hb hbok (by omega) W)
    have HB := Lib.hid (fun h => low_all (Str.of b) hbok h)
    have HT := Lib.hid hT
    have HF := Lib.hid hF
    have hsc : (S (Pl.encs (Pl.identF 0 true ascii r))).size ≤ 17179869176 := by rw [S_size]; omega
    have hcat : (S (Pl.encs r) ++ S (Pl.encs b) : ByteArray) = S (Pl.encs (r ++ b)) := by rw [S_append, ← Pl.encs_append]
    clear hl hT hF hr hr' hbok hxs
    have hxs : (⟨#[120]⟩ ++ S (Pl.encs b) : ByteArray).size = 1 + (S (Pl.encs b)).size := by rw [ByteArray.size_append]; rfl
    generalize hX : S (Pl.encs b) = X at hxs hsb hN' h2 hcat HO HB ⊢
    have HCAT := Lib.hid hcat
    clear hX hcat
    go_enter Tryf.func4, Tryf.ntmps4
    go_wp2_with (first
      | (go_at_call 14; (with_reducible refine (hN _).mono ?_); rintro e w' ⟨rfl, rfl⟩)
      | (go_at_call 14; (with_reducible refine (hN' _).mono ?_); rintro e w' ⟨rfl, rfl⟩))
    go_loopg [30] (Pl.encs b).length (fun k iv wr => ∃ j : Nat, k = (Pl.encs b).length - j ∧ j ≤ (Pl.encs b).length ∧ iv = .int .i64 j ∧ w = wr ∧ Hid (∀ i, i < j → bt X i < 128 ∧ Pl.contsB (bt X i) = true))
    case atStart => exact ⟨0, rfl, Nat.zero_le _, rfl, rfl, Lib.hid (fun i h => absurd h (Nat.not_lt_zero i))⟩
    case round =>
      obtain ⟨j, rfl, hj, rfl, rfl, HD⟩ := hrel
      by_cases hlt : j < (Pl.encs b).length
      · have hl : (j : Int) < ((Pl.encs b).length : Int) := by omega
        have hlx : j < X.size := by omega
        go_upto_region 9 with fail
        have hbj := bt_eq hlx
        have HBJ := Lib.hid hbj
        clear hbj
        generalize (X[j].toNat : Int) = v at HBJ ⊢
        go_cut [8, 65] (fun _ tv wr => tv = .bool (!nameV v) ∧ w = wr)
        case first =>
          go_wp2_with fail
          all_goals
            go_meet
            refine ⟨congrArg Value.bool ?_, rfl⟩
            (try simp only [beq_iff_eq, beq_eq_false_iff_ne, bne_iff_ne, ne_eq] at *)
            rw [Bool.eq_iff_iff]
            simp [nameV]
            try omega
        case rest =>
          obtain ⟨rfl, hwe⟩ := hcut
          subst hwe
          cases hn : nameV v with
          | true =>
            rw [HBJ.out] at hn
            have hn1 := nameV_bt hn
            have HD2 := Lib.hid (show ∀ i, i < j + 1 → bt X i < 128 ∧ Pl.contsB (bt X i) = true from fun i hi => by
              rcases Nat.lt_or_ge i j with q | q
              · exact HD.out i q
              · obtain rfl : i = j := by omega
                exact hn1)
            clear hn hn1
            go_wp2_with fail
            go_roundg ((Pl.encs b).length - (j + 1))
            case measure => omega
            case rel => exact ⟨j + 1, rfl, hlt, by simp, rfl, HD2⟩
          | false =>
            clear hn
            go_wp2_with fail
            go_ret
            exact ⟨rfl, Below.refl _ _⟩
      · obtain rfl : (Pl.encs b).length = j := by omega
        have HO2 := Lib.hid (HO.out (HB.out (fun i hi => HD.out i (by omega))))
        clear HD HO HB
        go_wp2_with (first
          | (go_at_call 15; (with_reducible refine (HI.out _ HT.out HF.out).mono ?_); rintro e w1 ⟨rfl, hb1⟩; have HB1 := Lib.hid hb1; clear hb1)
          | (go_at_call 16; (with_reducible refine (HO2.out _).mono ?_); rintro e w2 ⟨⟨a, c, i, rfl⟩, hb2⟩; have HB2 := Lib.hid hb2; clear hb2; rw [← HCAT.out]))
        go_ret
        have hb := HB1.out.trans (HB2.out.mono HB1.out.size)
        exact ⟨by simp, hb.alloc hb.size _⟩
  · go_enter Tryf.func4, Tryf.ntmps4
    go_wp2_with (first
      | (go_at_call 14; (with_reducible refine (hN _).mono ?_); rintro e w' ⟨rfl, rfl⟩)
      | (go_at_call 14; (with_reducible refine (hN' _).mono ?_); rintro e w' ⟨rfl, rfl⟩))
    go_ret
    exact ⟨rfl, Below.refl _ _⟩
  · go_enter Tryf.func4, Tryf.ntmps4
    go_wp2_with (go_at_call 14; (with_reducible refine (hN _).mono ?_); rintro e w' ⟨rfl, rfl⟩)
    go_ret
    exact ⟨rfl, Below.refl _ _⟩
end Go.Proofs.YtmomkkakjkkakaaFmt
