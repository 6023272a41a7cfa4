/-
  WALKS of the statements on names as identifiers, and behind the sign of a hash: true at every name.
-/
import Derived.Test.YtmomkkakjkkakaaFmtIdt
import Derived.Test.YtmomkkakjkkakaaFmtOnly
import Derived.Test.YtmomkkakjkkakaaFmtSm
set_option linter.unusedVariables false
set_option linter.unusedSimpArgs false
set_option maxRecDepth 100000
namespace Go.Proofs.YtmomkkakjkkakaaFmt
open Go.RowKit Go.Kit Go.Extern.Stop Go.Stop Go.Extern

/-- an int and a mask of one bit or two -/
theorem mask_le (z : Int) {m : Nat} (hm : m ≤ 3) : ∃ k : Nat, k ≤ m ∧ bits .and .i64 z (m : Int) = (k : Int) := by
  refine ⟨(BitVec.ofInt 64 z).toNat &&& m, Nat.and_le_right, ?_⟩
  have h : (BitVec.ofInt 64 z &&& BitVec.ofInt 64 (m : Int)).toNat = (BitVec.ofInt 64 z).toNat &&& m := by
    rw [BitVec.toNat_and, BitVec.ofInt_natCast, BitVec.toNat_ofNat, Nat.mod_eq_of_lt (by omega)]
  have hle : (BitVec.ofInt 64 z).toNat &&& m ≤ m := Nat.and_le_right
  show IntKind.i64.wrap ((BitVec.ofInt 64 z &&& BitVec.ofInt 64 (m : Int)).toNat : Int) = _
  rw [h, IntKind.wrap_i64]
  omega
theorem mask1 (z : Int) : ∃ k : Nat, k ≤ 1 ∧ bits .and .i64 z 1 = (k : Int) := mask_le z (m := 1) (by omega)
theorem mask3 (z : Int) : ∃ k : Nat, k ≤ 3 ∧ bits .and .i64 z 3 = (k : Int) := mask_le z (m := 3) (by omega)

theorem out_len : ∀ (es : List (Nat × Nat)) (may : Bool), (∀ x ∈ es, Pl.Good x) → (Pl.encs (Pl.outF es may)).length ≤ 8 * es.length
  | [], _, _ => by simp [Pl.outF, Pl.encs]
  | (c, e) :: t, may, h => by
    have g := h (c, e) (by simp)
    have ih := out_len t may (fun x hx => h x (by simp [hx]))
    have := Pl.pwe_len (c := c) (e := e) (nx := t.head?.map (·.1)) (may := may) g.ok g.le
    rw [Pl.outF, Pl.encs_append, List.length_append, List.length_cons]; omega
theorem ident_len {m : Nat} {may ascii : Bool} {r : List Nat} (hok : ∀ c ∈ r, Pl.Ok c) : (Pl.encs (Pl.identF m may ascii r)).length ≤ 8 * (Pl.encs r).length := by
  have h := out_len (Pl.idItems ascii (Pl.initE m r) r) may (Pl.idItems_good (Pl.initE_le _ _) hok)
  have h2 := encs_len_ge r
  have h3 := congrArg List.length (Pl.idItems_fst ascii (Pl.initE m r) r)
  rw [List.length_map] at h3
  unfold Pl.identF
  omega

/-- what only gives of a text of one token: its kind, its unit, its text -/
structure OneIs (k u : Int) (tx : List UInt8) (w : World) (e : Ending) (w' : World) : Prop where
  out : ∃ (a c : Int) (i : Bool), e = .returned (.tuple #[.agg #[.int .i64 k, .int .i64 a, .int .i64 c, .int .i64 u, .bool i, .string (S tx)], .bool true])
  below : Below w.heap.size w w'
theorem only_is {R : List Nat} {k : Pl.Tok} (hok : ∀ c ∈ R, Pl.Ok c) (hb : R.head? ≠ some 65279) (hs : (Pl.encs R).length ≤ 1099511627776) (ht : Pl.toksF R = ([k], 0, false)) (w : World) :
    Calls Tryf.prog 16 #[.string (S (Pl.encs R))] w fun e w' => OneIs k.kind k.unit k.text w e w' := by
  refine (only_plain (by rw [S_size]; exact hs) (r := R) ⟨S_data _, hok, hb⟩).mono fun e w' h => ?_
  have := h.out
  rw [onlyT_mk ht] at this
  exact ⟨⟨_, _, _, this⟩, h.below⟩

theorem ident_no47 {m : Nat} {may ascii : Bool} {r : List Nat} (hm : m ≠ 1) (hr : r ≠ []) (h : ∀ c ∈ r, Pl.Ok c) : Pl.pk (Pl.identF m may ascii r) 0 ≠ 47 := by
  have := (Pl.ident_head (mode := m) (may := may) (ascii := ascii) (r := r) (X := []) hm hr h (by decide)).ne
  rw [List.append_nil] at this
  exact this.2.2.2.2.2.1
theorem ident_only {m : Nat} {may ascii : Bool} {r : List Nat} (hm : m ≠ 1) (hr : r ≠ []) (h : ∀ c ∈ r, Pl.Ok c) (hl : (Pl.encs (Pl.identF m may ascii r)).length ≤ 1099511627776) (W : World) :
    Calls Tryf.prog 16 #[.string (S (Pl.encs (Pl.identF m may ascii r)))] W fun e w' => OneIs 29 0 (Pl.encs r) W e w' := by
  have ht := Pl.ident_tok (mode := m) (may := may) (ascii := ascii) (X := []) (T := (Pl.encs (Pl.identF m may ascii r)).length) hm hr h (.inl rfl)
  rw [List.append_nil, List.append_nil] at ht
  exact only_is (Pl.ident_ok h) (Pl.ident_first h) hl (Pl.toks_one (ident_no47 hm hr h) (show (29 : Nat) ≠ 0 by decide) ht) W
set_option maxHeartbeats 4000000 in
theorem fnIdentIsRead_walk {F : Interp} (s : ByteArray) (z : Int) (ascii : Bool) (w : World) (hs : s.size ≤ 9223372036854775807) (hT : Tabs w) (hF : F.told.answers w.tape) :
    Calls Tryf.prog 5 #[.string s, .int .i64 z, .bool ascii] w fun e w' => e = .returned (.bool true) ∧ Below w.heap.size w w' := by
  by_cases h1 : 2147483647 < s.size
  · go_enter Tryf.func5, Tryf.ntmps5
    go_wp2_with fail
    go_ret
    exact ⟨rfl, Below.refl _ _⟩
  rcases isName_det (s := s) (by omega) with ⟨r, hr, hN⟩ | hN
  · obtain ⟨k, hk1, hk⟩ := mask1 z
    obtain rfl : s = S (Pl.encs r) := by rw [← hr.txt, S_of]
    have hsz : (S (Pl.encs r)).size = (Pl.encs r).length := S_size _
    have hl := ident_len (m := 0) (may := decide (k = 0)) (ascii := ascii) hr.ok
    have HI := Lib.hid (show Calls Tryf.prog 15 #[.string (S (Pl.encs r)), .int .i64 0, .int .i64 k, .bool ascii] w fun e w' => e = .returned (.string (S (Pl.encs (Pl.identF 0 (decide (k = 0)) ascii r)))) ∧ Below w.heap.size w w' from
      ident_any (ascii := ascii) (m := 0) (by omega) hk1 (Str.of r) hr.ne hr.ok (by omega) hT hF)
    have HO := Lib.hid (fun W => ident_only (m := 0) (may := decide (k = 0)) (ascii := ascii) (by decide) hr.ne hr.ok (by omega) W)
    have HFt := Lib.hid (fun W => fits_any (ascii := ascii) W (by rw [S_size]; omega) (Str.of (Pl.identF 0 (decide (k = 0)) ascii r)) (by rintro rfl; exact Pl.ident_low hr.ok))
    clear hl hT hF hr
    go_enter Tryf.func5, Tryf.ntmps5
    go_wp2_with (first
      | (go_at_call 14; (with_reducible refine (hN _).mono ?_); rintro e w' ⟨rfl, rfl⟩)
      | (go_at_call 15; (with_reducible refine HI.out.mono ?_); rintro e w1 ⟨rfl, hb1⟩; have HB1 := Lib.hid hb1; clear hb1)
      | (go_at_call 16; (with_reducible refine (HO.out _).mono ?_); rintro e w2 ⟨⟨a, c, i, rfl⟩, hb2⟩; have HB2 := Lib.hid hb2; clear hb2)
      | (go_at_call 17; (with_reducible refine (HFt.out _).mono ?_); rintro e w' ⟨rfl, rfl⟩))
    go_ret
    have hb := HB1.out.trans (HB2.out.mono HB1.out.size)
    exact ⟨by simp, hb.alloc hb.size _⟩
  · go_enter Tryf.func5, Tryf.ntmps5
    go_wp2_with (go_at_call 14; (with_reducible refine (hN _).mono ?_); rintro e w' ⟨rfl, rfl⟩)
    go_ret
    exact ⟨rfl, Below.refl _ _⟩
theorem hash_only {may ascii : Bool} {r : List Nat} (hr : r ≠ []) (h : ∀ c ∈ r, Pl.Ok c) (hl : (Pl.encs (Pl.identF 1 may ascii r)).length ≤ 1099511627770) (W : World) :
    Calls Tryf.prog 16 #[.string (⟨#[35]⟩ ++ S (Pl.encs (Pl.identF 1 may ascii r)))] W fun e w' => OneIs 28 0 (Pl.encs r) W e w' := by
  have e : (⟨#[35]⟩ ++ S (Pl.encs (Pl.identF 1 may ascii r)) : ByteArray) = S (Pl.encs (35 :: Pl.identF 1 may ascii r)) := by
    rw [Pl.encs_cons, show Pl.enc 35 = [35] from enc1 (by omega), ← S_append]; rfl
  obtain ⟨b, ht⟩ := Pl.hash_tok (may := may) (ascii := ascii) (T := (Pl.encs (35 :: Pl.identF 1 may ascii r)).length) hr h
  rw [e]
  refine only_is (fun c hc => ?_) (by simp) (by rw [Pl.encs_cons, show Pl.enc 35 = [35] from enc1 (by omega), List.length_append]; simp only [List.length_singleton]; omega) (Pl.toks_one (by rw [Pl.pk_cons]; decide) (show (28 : Nat) ≠ 0 by decide) ht) W
  rcases List.mem_cons.mp hc with rfl | hc
  · exact ⟨.inl (by omega), by omega⟩
  · exact Pl.ident_ok h c hc
set_option maxHeartbeats 4000000 in
theorem fnHashIsRead_walk {F : Interp} (s : ByteArray) (z : Int) (ascii : Bool) (w : World) (hs : s.size ≤ 9223372036854775807) (hT : Tabs w) (hF : F.told.answers w.tape) :
    Calls Tryf.prog 3 #[.string s, .int .i64 z, .bool ascii] w fun e w' => e = .returned (.bool true) ∧ Below w.heap.size w w' := by
  by_cases h1 : 2147483647 < s.size
  · go_enter Tryf.func3, Tryf.ntmps3
    go_wp2_with fail
    go_ret
    exact ⟨rfl, Below.refl _ _⟩
  rcases isName_det (s := s) (by omega) with ⟨r, hr, hN⟩ | hN
  · obtain ⟨k, hk1, hk⟩ := mask1 z
    obtain rfl : s = S (Pl.encs r) := by rw [← hr.txt, S_of]
    have hsz : (S (Pl.encs r)).size = (Pl.encs r).length := S_size _
    have hl := ident_len (m := 1) (may := decide (k = 0)) (ascii := ascii) hr.ok
    have HI := Lib.hid (show Calls Tryf.prog 15 #[.string (S (Pl.encs r)), .int .i64 1, .int .i64 k, .bool ascii] w fun e w' => e = .returned (.string (S (Pl.encs (Pl.identF 1 (decide (k = 0)) ascii r)))) ∧ Below w.heap.size w w' from
      ident_any (ascii := ascii) (m := 1) (by omega) hk1 (Str.of r) hr.ne hr.ok (by omega) hT hF)
    have HO := Lib.hid (fun W => hash_only (may := decide (k = 0)) (ascii := ascii) hr.ne hr.ok (by omega) W)
    have hsz2 : (S (Pl.encs (Pl.identF 1 (decide (k = 0)) ascii r))).size ≤ 17179869176 := by rw [S_size]; omega
    have HFt := Lib.hid (fun W => fits_any (ascii := ascii) W (by rw [S_size]; omega) (Str.of (Pl.identF 1 (decide (k = 0)) ascii r)) (by rintro rfl; exact Pl.ident_low hr.ok))
    clear hl hT hF hr
    go_enter Tryf.func3, Tryf.ntmps3
    go_wp2_with (first
      | (go_at_call 14; (with_reducible refine (hN _).mono ?_); rintro e w' ⟨rfl, rfl⟩)
      | (go_at_call 15; (with_reducible refine HI.out.mono ?_); rintro e w1 ⟨rfl, hb1⟩; have HB1 := Lib.hid hb1; clear hb1)
      | (go_at_call 16; (with_reducible refine (HO.out _).mono ?_); rintro e w2 ⟨⟨a, c, i, rfl⟩, hb2⟩; have HB2 := Lib.hid hb2; clear hb2)
      | (go_at_call 17; (with_reducible refine (HFt.out _).mono ?_); rintro e w' ⟨rfl, rfl⟩))
    go_ret
    have hb := HB1.out.trans (HB2.out.mono HB1.out.size)
    exact ⟨by simp, hb.alloc hb.size _⟩
  · go_enter Tryf.func3, Tryf.ntmps3
    go_wp2_with (go_at_call 14; (with_reducible refine (hN _).mono ?_); rintro e w' ⟨rfl, rfl⟩)
    go_ret
    exact ⟨rfl, Below.refl _ _⟩
end Go.Proofs.YtmomkkakjkkakaaFmt
