/-
  WALKS of the statements on units: behind digits, and behind a number with a power: true at every name and number.
-/
import Derived.Test.YtmomkkakjkkakaaFmtFnI
import Derived.Test.YtmomkkakjkkakaaFmtNumr
set_option linter.unusedVariables false
set_option linter.unusedSimpArgs false
set_option maxRecDepth 100000
namespace Go.Proofs.YtmomkkakjkkakaaFmt
open Go.RowKit Go.Kit Go.Extern.Stop Go.Stop Go.Extern

/-- what a name means, escapes decoded, by the standard -/
theorem sdec_any {R : List Nat} (hok : ∀ c ∈ R, Pl.Ok c) (hs : (Pl.encs R).length ≤ 1099511627776) (w : World) :
    Calls Tryf.prog 34 #[.string (S (Pl.encs R))] w fun e w' => e = .returned (.string (S (Pl.encs (Pl.nameF R).1))) ∧ Below w.heap.size w w' := by
  have hp0 : Pl.posN (S (Pl.encs R)).size R = 0 := by rw [S_size]; unfold Pl.posN; omega
  have hl0 : Lx (w.alloc (.cells #[.string (S (Pl.encs R)), .int .i64 0, .slice none 0 0, .bool false] 53)) w.heap.size (S (Pl.encs R)) R (.slice none 0 0) false := by
    refine ⟨?_, ?_, hok, by rw [S_size]; omega, by rw [S_size]; exact hs⟩
    · rw [hp0]; exact Blk.new _ _ _
    · rw [hp0, S_data]; rfl
  have HL0 := Lib.hid hl0
  clear hl0 hp0 hok
  go_enter Tryf.func34, Tryf.ntmps34
  go_wp2_with (go_at_call 48; (with_reducible refine (name_from HL0.out (gr_refl _ _)).mono ?_); rintro e w' ⟨rfl, h', g'⟩; have G := Lib.hid g'; clear h' g')
  go_ret
  exact ⟨rfl, ((Below.refl _ w).alloc (Nat.le_refl _) _).trans ((gr_below G.out (Nat.le_refl _) (by simp)))⟩
/-- a unit behind what is read as a number -/
structure UnitAt (m : Nat) (A : List Nat) : Prop where
  low : ∀ c ∈ A, c < 128 ∧ c ≠ 0
  tok : ∀ (may ascii : Bool) (r : List Nat), r ≠ [] → (∀ c ∈ r, Pl.Ok c) → Pl.toksF (A ++ Pl.identF m may ascii r) = ([{ kind := 26, unit := (A.length : Nat), start := 0, stop := (Pl.encs (A ++ Pl.identF m may ascii r)).length }], 0, false)
  ne : A ≠ []
theorem unit_only {m : Nat} {may ascii : Bool} {A r : List Nat} (hA : UnitAt m A) (hr : r ≠ []) (h : ∀ c ∈ r, Pl.Ok c) (hl : (Pl.encs A).length + (Pl.encs (Pl.identF m may ascii r)).length ≤ 1099511627776) (W : World) :
    Calls Tryf.prog 16 #[.string (S (Pl.encs A) ++ S (Pl.encs (Pl.identF m may ascii r)))] W fun e w' => OneIs 26 ((Pl.encs A).length : Nat) [] W e w' := by
  rw [S_append, ← Pl.encs_append, Pl.encs_len_low (fun c hc => (hA.low c hc).1)]
  refine only_is (k := { kind := 26, unit := (A.length : Nat), start := 0, stop := (Pl.encs (A ++ Pl.identF m may ascii r)).length }) (fun c hc => ?_) ?_ (by rw [Pl.encs_append, List.length_append]; omega) (hA.tok may ascii r hr h) W
  · rcases List.mem_append.mp hc with hc | hc
    · have := hA.low c hc; exact ⟨.inl (by omega), this.2⟩
    · exact Pl.ident_ok h c hc
  · cases hA' : A with
    | nil => exact absurd hA' hA.ne
    | cons c t => have := (hA.low c (by simp [hA'])).1; simp; omega
theorem unit_at {ds : List Nat} (hd0 : ds ≠ []) (hd : ∀ d ∈ ds, Pl.digB (d : Int) = true) : UnitAt 2 ds where
  low c hc := by have := hd c hc; simp only [Pl.digB, decide_eq_true_eq] at this; omega
  ne := hd0
  tok may ascii r hr h := by
    refine Pl.toks_one (k := { kind := 26, unit := (ds.length : Nat) }) ?_ (by simp) (Pl.unit_tok hd0 hd hr h)
    cases ds with
    | nil => exact absurd rfl hd0
    | cons d t => rw [List.cons_append, Pl.pk_cons]; exact (Pl.dig_not (hd d (by simp))).2.2.2
theorem power_at {ds pw : List Nat} (hd0 : ds ≠ []) (hd : ∀ d ∈ ds, Pl.digB (d : Int) = true) (hpw : Pl.Power pw) (hp0 : ∀ c ∈ pw, c ≠ 0) : UnitAt 3 (ds ++ 101 :: pw) where
  low c hc := by
    rcases List.mem_append.mp hc with hc | hc
    · have := hd c hc; simp only [Pl.digB, decide_eq_true_eq] at this; omega
    · rcases List.mem_cons.mp hc with rfl | hc
      · omega
      · exact ⟨hpw.low c hc, hp0 c hc⟩
  ne := by cases ds <;> simp
  tok may ascii r hr h := by
    refine Pl.toks_one (k := { kind := 26, unit := ((ds ++ 101 :: pw).length : Nat) }) ?_ (by simp) (Pl.power_tok hd0 hd hpw hr h)
    cases ds with
    | nil => exact absurd rfl hd0
    | cons d t => rw [List.cons_append, List.cons_append, Pl.pk_cons]; exact (Pl.dig_not (hd d (by simp))).2.2.2
theorem extract_cat (A B : List UInt8) : (S A ++ S B).extract A.length (A.length + B.length) = S B := by
  rw [S_append]
  apply ByteArray.ext
  simp [S, ByteArray.data_extract]
theorem name_back {m : Nat} {may ascii : Bool} {r : List Nat} (h : ∀ c ∈ r, Pl.Ok c) : (Pl.nameF (Pl.identF m may ascii r)).1 = r := by
  have := Pl.ident_name (mode := m) (may := may) (ascii := ascii) (r := r) (X := []) h (.inr (by decide))
  rw [List.append_nil, Pl.nameF_nil, List.append_nil] at this
  rw [this]
set_option maxHeartbeats 4000000 in
theorem unitIsRead_any {F : Interp} {w : World} {A r : List Nat} {m k : Nat} {ascii : Bool} (hm : m ≤ 3) (hk : k ≤ 1) (hA : UnitAt m A) (hAl : (Pl.encs A).length ≤ 2147483647) (hr : r ≠ []) (hok : ∀ c ∈ r, Pl.Ok c) (hs : (Pl.encs r).length ≤ 2147483647) (hT : Tabs w) (hF : F.told.answers w.tape) :
    Calls Tryf.prog 19 #[.string (S (Pl.encs A)), .string (S (Pl.encs r)), .int .i64 m, .int .i64 k, .bool ascii] w fun e w' => e = .returned (.bool true) ∧ Below w.heap.size w w' := by
  have hl := ident_len (m := m) (may := decide (k = 0)) (ascii := ascii) hok
  have HI := Lib.hid (ident_any (ascii := ascii) (m := m) hm hk (Str.of r) hr hok (by rw [S_size]; omega) hT hF)
  have HO := Lib.hid (fun W => unit_only (m := m) (may := decide (k = 0)) (ascii := ascii) hA hr hok (by omega) W)
  have HS := Lib.hid (fun W => sdec_any (Pl.ident_ok (mode := m) (may := decide (k = 0)) (ascii := ascii) hok) (by omega) W)
  have HNB := Lib.hid (name_back (m := m) (may := decide (k = 0)) (ascii := ascii) hok)
  have HFt := Lib.hid (fun W => fits_any (ascii := ascii) (R := A ++ Pl.identF m (decide (k = 0)) ascii r) W (s := S (Pl.encs A) ++ S (Pl.encs (Pl.identF m (decide (k = 0)) ascii r))) (by rw [S_append, S_size, List.length_append]; omega) ⟨by rw [S_append, S_data, Pl.encs_append]⟩ (by
    rintro rfl c hc
    rcases List.mem_append.mp hc with hc | hc
    · exact (hA.low c hc).1
    · exact Pl.ident_low hok c hc))
  have hsA : (S (Pl.encs A)).size = (Pl.encs A).length := S_size _
  have hsR : (S (Pl.encs (Pl.identF m (decide (k = 0)) ascii r))).size = (Pl.encs (Pl.identF m (decide (k = 0)) ascii r)).length := S_size _
  have HX := Lib.hid (extract_cat (Pl.encs A) (Pl.encs (Pl.identF m (decide (k = 0)) ascii r)))
  generalize Pl.identF m (decide (k = 0)) ascii r = R at HI HO HS HNB HFt hsR HX hl
  clear hA hr hok hT hF
  go_enter Tryf.func19, Tryf.ntmps19
  go_wp2_with (first
    | (go_at_call 15; (with_reducible refine HI.out.mono ?_); rintro e w1 ⟨rfl, hb1⟩; have HB1 := Lib.hid hb1; clear hb1)
    | (go_at_call 16; (with_reducible refine (HO.out _).mono ?_); rintro e w2 ⟨⟨a, c, i, rfl⟩, hb2⟩; have HB2 := Lib.hid hb2; clear hb2)
    | (go_at_call 34; rw [HX.out]; (with_reducible refine (HS.out _).mono ?_); rintro e w3 ⟨rfl, hb3⟩; have HB3 := Lib.hid hb3; clear hb3; rw [HNB.out])
    | (go_at_call 17; (with_reducible refine (HFt.out _).mono ?_); rintro e w' ⟨rfl, rfl⟩))
  go_ret
  have hb := (HB1.out.trans (HB2.out.mono HB1.out.size))
  have hb2 := hb.alloc hb.size (.cells #[.int .i64 26, .int .i64 a, .int .i64 c, .int .i64 ((Pl.encs A).length : Nat), .bool i, .string (S [])] 25)
  exact ⟨by simp, hb2.trans (HB3.out.mono hb2.size)⟩

set_option maxHeartbeats 4000000 in
theorem fnUnitIsRead_walk {F : Interp} (s : ByteArray) (base : Option Addr) (n cap : Nat) (f : Nat → Nat) (z : Int) (ascii : Bool) (w : World) (hs : s.size ≤ 9223372036854775807) (hn : n ≤ 9223372036854775807) (hB : Bytes w base n f) (hT : Tabs w) (hF : F.told.answers w.tape) :
    Calls Tryf.prog 7 #[.string s, .slice base n cap, .int .i64 z, .bool ascii] w fun e w' => e = .returned (.bool true) ∧ Below w.heap.size w w' := by
  by_cases h1 : 2147483647 < s.size
  · go_enter Tryf.func7, Tryf.ntmps7
    go_wp2_with fail
    go_ret
    exact ⟨rfl, Below.refl _ _⟩
  by_cases h2 : 2147483647 < n
  · go_enter Tryf.func7, Tryf.ntmps7
    go_wp2_with fail
    go_ret
    exact ⟨rfl, Below.refl _ _⟩
  have hNum := numeral_plain (cap := cap) (by omega) hB
  by_cases h3 : n ≤ 1000 ∧ n ≠ 0
  · rw [show (decide (n ≤ 1000) && decide (n ≠ 0)) = true by simp [h3.1, h3.2]] at hNum
    have HN := Lib.hid hNum
    rcases isName_det (s := s) (by omega) with ⟨r, hr, hN⟩ | hN
    · obtain ⟨k, hk1, hk⟩ := mask1 z
      obtain rfl : s = S (Pl.encs r) := by rw [← hr.txt, S_of]
      have hsz : (S (Pl.encs r)).size = (Pl.encs r).length := S_size _
      have hA : UnitAt 2 (dsOf f n) := unit_at (by intro e; have := dsOf_len f n; rw [e] at this; simp at this; omega) (dsOf_dig f n)
      have hAl : (Pl.encs (dsOf f n)).length ≤ 2147483647 := by rw [Pl.encs_len_low (fun c hc => (hA.low c hc).1), dsOf_len]; omega
      have HU := Lib.hid (show ∀ W, Tabs W → F.told.answers W.tape → Calls Tryf.prog 19 #[.string (S (Pl.encs (dsOf f n))), .string (S (Pl.encs r)), .int .i64 2, .int .i64 k, .bool ascii] W fun e w' => e = .returned (.bool true) ∧ Below W.heap.size W w' from
        fun W h1 h2 => unitIsRead_any (m := 2) (by omega) hk1 hA hAl hr.ne hr.ok (by omega) h1 h2)
      have HT := Lib.hid hT
      have HF := Lib.hid hF
      clear hNum hT hF hr hA hAl hB
      go_enter Tryf.func7, Tryf.ntmps7
      go_wp2_with (first
        | (go_at_call 18; (with_reducible refine HN.out.mono ?_); rintro e w1 ⟨rfl, hb1⟩; have HB1 := Lib.hid hb1; clear hb1)
        | (go_at_call 14; (with_reducible refine (hN _).mono ?_); rintro e w' ⟨rfl, rfl⟩)
        | (go_at_call 19; (with_reducible refine (HU.out _ (HT.out.below HB1.out) (by rw [HB1.out.tape]; exact HF.out)).mono ?_); rintro e w2 ⟨rfl, hb2⟩; have HB2 := Lib.hid hb2; clear hb2))
      go_ret
      exact ⟨rfl, HB1.out.trans (HB2.out.mono HB1.out.size)⟩
    · clear hNum hT hF hB
      go_enter Tryf.func7, Tryf.ntmps7
      go_wp2_with (first
        | (go_at_call 18; (with_reducible refine HN.out.mono ?_); rintro e w1 ⟨rfl, hb1⟩; have HB1 := Lib.hid hb1; clear hb1)
        | (go_at_call 14; (with_reducible refine (hN _).mono ?_); rintro e w' ⟨rfl, rfl⟩))
      go_ret
      exact ⟨rfl, HB1.out⟩
  · rw [show (decide (n ≤ 1000) && decide (n ≠ 0)) = false by simp; omega] at hNum
    have HN := Lib.hid hNum
    clear hNum hT hF hB h3
    go_enter Tryf.func7, Tryf.ntmps7
    go_wp2_with (go_at_call 18; (with_reducible refine HN.out.mono ?_); rintro e w1 ⟨rfl, hb1⟩; have HB1 := Lib.hid hb1; clear hb1)
    go_ret
    exact ⟨rfl, HB1.out⟩

/-- the bytes of a power -/
theorem power_of {p : ByteArray} {k : Nat} (h : PwB p k) : ∃ pw, p = S (Pl.encs pw) ∧ Pl.Power pw ∧ (∀ c ∈ pw, c ≠ 0) ∧ pw.length = p.size := by
  have hk : k ≤ 1 := by rw [h.sgn]; split <;> omega
  have hb : ∀ i, i < p.size → bt p i < 128 ∧ bt p i ≠ 0 := by
    intro i hi
    rcases Nat.lt_or_ge i k with q | q
    · obtain rfl : i = 0 := by omega
      have := h.sgn
      split at this
      · omega
      · omega
    · have := h.dig i q hi; omega
  have hlist : p.data.toList = (List.range p.size).map fun i => UInt8.ofNat (bt p i) := by
    apply List.ext_getElem?
    intro i
    rw [List.getElem?_map]
    by_cases hi : i < p.size
    · have hi' : i < p.data.toList.length := by rw [Array.length_toList]; exact hi
      rw [List.getElem?_range hi, List.getElem?_eq_getElem hi', Option.map_some]
      congr 1
      unfold bt
      rw [List.getD_eq_getElem?_getD, List.getElem?_eq_getElem hi', Option.getD_some]
      simp
    · rw [List.getElem?_eq_none (by rw [Array.length_toList]; exact Nat.not_lt.1 hi), List.getElem?_eq_none (by simp; omega)]; rfl
  have hlow : ∀ c ∈ (List.range p.size).map (fun i => bt p i), c < 128 ∧ c ≠ 0 := by
    intro c hc
    simp only [List.mem_map, List.mem_range] at hc
    obtain ⟨i, hi, rfl⟩ := hc
    exact hb i hi
  refine ⟨(List.range p.size).map fun i => bt p i, ?_, ?_, fun c hc => (hlow c hc).2, by simp⟩
  · rw [encs_ascii _ (fun c hc => (hlow c hc).1), List.map_map]
    conv => lhs; rw [← S_of p, hlist]
    rfl
  · have hlt := h.lt
    rcases (show k = 0 ∨ k = 1 by omega) with rfl | rfl
    · refine ⟨[], _, rfl, .inl rfl, ?_, ?_⟩
      · intro e; have := congrArg List.length e; rw [List.length_map, List.length_range, List.length_nil] at this; omega
      · intro d hd
        simp only [List.mem_map, List.mem_range] at hd
        obtain ⟨i, hi, rfl⟩ := hd
        have := h.dig i (by omega) hi
        simp only [Pl.digB, decide_eq_true_eq]; omega
    · have h0 : bt p 0 = 45 ∨ bt p 0 = 43 := by
        have := h.sgn
        split at this
        · assumption
        · omega
      refine ⟨[bt p 0], (List.range (p.size - 1)).map (fun i => bt p (i + 1)), ?_, by rcases h0 with e | e <;> simp [e], ?_, ?_⟩
      · obtain ⟨q, hq⟩ : ∃ q, p.size = q + 1 := ⟨p.size - 1, by omega⟩
        rw [hq, List.range_succ_eq_map, List.map_cons, List.map_map]
        rfl
      · intro e; have := congrArg List.length e; rw [List.length_map, List.length_range, List.length_nil] at this; omega
      · intro d hd
        simp only [List.mem_map, List.mem_range] at hd
        obtain ⟨i, hi, rfl⟩ := hd
        have := h.dig (i + 1) (by omega) (by omega)
        simp only [Pl.digB, decide_eq_true_eq]; omega
end Go.Proofs.YtmomkkakjkkakaaFmt
