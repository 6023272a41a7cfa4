/-
  WALKS of QuotedBy, Quoted and BestQuote: a printer is made, the text is printed, and its bytes are returned; what the statements ask of them.
-/
import Derived.Test.YtmomkkakjkkakaaFmtQw
import Derived.Test.YtmomkkakjkkakaaFmtBq
import Derived.Test.YtmomkkakjkkakaaFmtOnly
import Derived.Test.YtmomkkakjkkakaaFmtSm
import Derived.Laws.BytesArg
import Derived.Lib.BufferRead
set_option linter.unusedVariables false
set_option linter.unusedSimpArgs false
set_option maxRecDepth 100000
namespace Go.Proofs.YtmomkkakjkkakaaFmt
open Go.RowKit Go.Kit Go.Extern.Stop Go.Stop Go.Extern

/-- a printer that has printed nothing -/
def blank (ascii : Bool) : Obj := .cells #[.pointer none, .slice none 0 0, .map none, .int .i64 0, .int .u32 0, .int .u16 0, .bool false, .bool ascii, .int .u8 0, .bool false, .int .u8 0, .bool false, .int .u8 0, .slice none 0 0, .slice none 0 0, .slice none 0 0, .map none, .slice none 0 0, .slice none 0 0, .pointer none, .slice none 0 0, .slice none 0 0, .map none, .slice none 0 0, .string ⟨#[]⟩, .int .i64 0, .int .i64 0, .int .i64 0, .int .i64 0, .int .i64 0, .int .i64 0, .bool false, .int .i64 0, .int .i64 0, .int .i64 0, .int .i32 0, .int .u32 0, .bool false, .bool false, .bool false, .bool false, .int .i64 0, .int .i64 0] 84
theorem new_pr (w : World) (ascii : Bool) : Pr (w.alloc (blank ascii)) w.heap.size ascii (.slice none 0 0) [] :=
  ⟨⟨_, Blk.new w _ _, rfl, rfl, rfl, rfl⟩, World.ownsRow_nil _ _ _ _⟩
/-- the bytes of what was printed, as a string -/
theorem conv_own {w : World} {B : Nat} {v : Value} {d : List UInt8} (h : w.ownsRow B 5 1 v d.length (Lib.byteCells d)) :
    (convert 31 9 v).run Tryf.prog w = .ok (.string (S d)) w := by
  rcases h.2 with ⟨rfl, h0⟩ | ⟨g, cap, cur, rfl, hb, hg, hnc, hcm, hcs, htake⟩
  · obtain rfl := List.eq_nil_of_length_eq_zero h0
    exact run_convert_bytes_nil w _ 5 Tryf.underlying31 Tryf.underlying5 0 0 _ Tryf.underlying9
  · have hc : ∀ i, i < d.length → w.cell? ⟨g, 0 + i, none⟩ = some (.int .u8 ((d.map fun b => (b.toNat : Int)).getD i 0)) := by
      intro i hi
      rw [Nat.zero_add, cell_of_row w g i cur _ (0, 0) hg]
      have h1 : (cur.toList.take (d.length * 1))[i]? = (Lib.byteCells d)[i]? := by rw [htake]
      rw [List.getElem?_take, if_pos (by omega), Array.getElem?_toList] at h1
      rw [h1]
      simp [Lib.byteCells, List.getElem?_map, List.getElem?_eq_getElem hi, List.getD_eq_getElem?_getD]
    have := run_convert_bytes_arg w 31 5 Tryf.underlying31 Tryf.underlying5 g 0 d.length cap (d.map fun b => (b.toNat : Int)) (by simp) hc _ Tryf.underlying9
    rw [this]
    congr 2
    unfold strOfNums S
    congr 1
    rw [List.map_map]
    congr 1
    refine (List.map_congr_left fun b _ => ?_).trans (List.map_id d)
    simp
theorem pr_below {w : World} {ascii : Bool} {W : World} (h : Below w.heap.size (w.alloc (blank ascii)) W) : Below w.heap.size w W := ((Below.refl _ w).alloc (Nat.le_refl _) (blank ascii)).trans h
set_option maxHeartbeats 4000000 in
theorem zzby_any {F : Interp} {w : World} {x : ByteArray} {r : List Nat} {q : Nat} {ascii : Bool} (hq : q = 0 ∨ q = 34 ∨ q = 39) (hx : Str x r) (hok : ∀ c ∈ r, Pl.Ok c) (hs : x.size ≤ 1099511627776) (hT : Tabs w) (hO : Folds w) (hF : F.told.answers w.tape) :
    Calls Tryf.prog 37 #[.string x, .int .u8 q, .bool ascii] w fun e w' => e = .returned (.string (S (Pl.encs (Pl.quoteF ascii q r)))) ∧ Below w.heap.size w w' := by
  have HC := Lib.hid (pqw_any (new_pr w ascii) (by simp) hq hx hok hs (fun W h => hT.below (pr_below h)) (fun W h => hO.below (pr_below h)) (show F.told.answers (w.alloc (blank ascii)).tape from hF))
  have HB := Lib.hid (show Below w.heap.size w (w.alloc (blank ascii)) from (Below.refl _ w).alloc (Nat.le_refl _) _)
  clear hx hok hT hO hF hq
  go_enter Tryf.func37, Tryf.ntmps37
  have HC1 := Lib.hid (by have := HC.out; unfold blank at this; exact this : Calls Tryf.prog 49 #[.pointer (some ⟨w.heap.size, 0, none⟩), .string x, .int .u8 q, .int .u8 0] (w.alloc (.cells #[.pointer none, .slice none 0 0, .map none, .int .i64 0, .int .u32 0, .int .u16 0, .bool false, .bool ascii, .int .u8 0, .bool false, .int .u8 0, .bool false, .int .u8 0, .slice none 0 0, .slice none 0 0, .slice none 0 0, .map none, .slice none 0 0, .slice none 0 0, .pointer none, .slice none 0 0, .slice none 0 0, .map none, .slice none 0 0, .string ⟨#[]⟩, .int .i64 0, .int .i64 0, .int .i64 0, .int .i64 0, .int .i64 0, .int .i64 0, .bool false, .int .i64 0, .int .i64 0, .int .i64 0, .int .i32 0, .int .u32 0, .bool false, .bool false, .bool false, .bool false, .int .i64 0, .int .i64 0] 84)) fun e w' => PrOut w.heap.size ascii (w.alloc (.cells #[.pointer none, .slice none 0 0, .map none, .int .i64 0, .int .u32 0, .int .u16 0, .bool false, .bool ascii, .int .u8 0, .bool false, .int .u8 0, .bool false, .int .u8 0, .slice none 0 0, .slice none 0 0, .slice none 0 0, .map none, .slice none 0 0, .slice none 0 0, .pointer none, .slice none 0 0, .slice none 0 0, .map none, .slice none 0 0, .string ⟨#[]⟩, .int .i64 0, .int .i64 0, .int .i64 0, .int .i64 0, .int .i64 0, .int .i64 0, .bool false, .int .i64 0, .int .i64 0, .int .i64 0, .int .i32 0, .int .u32 0, .bool false, .bool false, .bool false, .bool false, .int .i64 0, .int .i64 0] 84)) ([] ++ Pl.encs (Pl.quoteF ascii q r)) e w')
  have HB1 := Lib.hid (by have := HB.out; unfold blank at this; exact this : Below w.heap.size w (w.alloc (.cells #[.pointer none, .slice none 0 0, .map none, .int .i64 0, .int .u32 0, .int .u16 0, .bool false, .bool ascii, .int .u8 0, .bool false, .int .u8 0, .bool false, .int .u8 0, .slice none 0 0, .slice none 0 0, .slice none 0 0, .map none, .slice none 0 0, .slice none 0 0, .pointer none, .slice none 0 0, .slice none 0 0, .map none, .slice none 0 0, .string ⟨#[]⟩, .int .i64 0, .int .i64 0, .int .i64 0, .int .i64 0, .int .i64 0, .int .i64 0, .bool false, .int .i64 0, .int .i64 0, .int .i64 0, .int .i32 0, .int .u32 0, .bool false, .bool false, .bool false, .bool false, .int .i64 0, .int .i64 0] 84)))
  clear HC HB
  go_wp2_with (go_at_call 49; (with_reducible refine HC1.out.mono ?_); rintro e w5 ⟨rfl, ⟨u5, hp5⟩, hk5⟩; have hcv := conv_own hp5.own; have c5 := hp5.css)
  go_ret
  exact ⟨rfl, HB1.out.trans hk5.below⟩
theorem by_any {F : Interp} {w : World} {x : ByteArray} {r : List Nat} {q : Nat} {ascii : Bool} (hq : q = 0 ∨ q = 34 ∨ q = 39) (hx : Str x r) (hok : ∀ c ∈ r, Pl.Ok c) (hs : x.size ≤ 1099511627776) (hT : Tabs w) (hO : Folds w) (hF : F.told.answers w.tape) :
    Calls Tryf.prog 22 #[.string x, .int .u8 q, .bool ascii] w fun e w' => e = .returned (.string (S (Pl.encs (Pl.quoteF ascii q r)))) ∧ Below w.heap.size w w' := by
  have HC := Lib.hid (zzby_any (ascii := ascii) hq hx hok hs hT hO hF)
  clear hx hok hT hO hF hq
  go_enter Tryf.func22, Tryf.ntmps22
  go_wp2_with (go_at_call 37; (with_reducible refine HC.out.mono ?_); rintro e w5 ⟨rfl, hb⟩)
  go_ret
  exact ⟨rfl, hb⟩
theorem bestF_cases (url : Bool) (r : List Nat) : Pl.bestF url r = 0 ∨ Pl.bestF url r = 34 ∨ Pl.bestF url r = 39 := by unfold Pl.bestF; (repeat' split) <;> simp
theorem bestF_two (r : List Nat) : Pl.bestF false r = 34 ∨ Pl.bestF false r = 39 := by
  unfold Pl.bestF
  rw [if_neg (by simp)]
  split <;> simp
set_option maxHeartbeats 4000000 in
theorem pq_any {F : Interp} {w : World} {B : Nat} {ascii : Bool} {v : Value} {d : List UInt8} {x : ByteArray} {r : List Nat} (hP : Pr w B ascii v d) (hd : d.length ≤ 1099511627776) (hx : Str x r) (hok : ∀ c ∈ r, Pl.Ok c) (hs : x.size ≤ 1099511627776) (hTB : ∀ W, Below B w W → Tabs W) (hOB : ∀ W, Below B w W → Folds W) (hF : F.told.answers w.tape) :
    Calls Tryf.prog 51 #[.pointer (some ⟨B, 0, none⟩), .string x, .int .u8 0] w fun e w' => PrOut B ascii w (d ++ Pl.encs (Pl.quoteF ascii (Pl.bestF false r) r)) e w' := by
  have HBq := Lib.hid (best_any (w := w) false hx hok hs)
  have hBw := hP.lt
  have HC := Lib.hid (fun (W : World) (hb : Below w.heap.size w W) => pqw_any (hP.keep hb) hd (q := Pl.bestF false r) (bestF_cases false r) hx hok hs (fun W' h => hTB W' ((hb.mono (Nat.le_of_lt hBw)).trans h)) (fun W' h => hOB W' ((hb.mono (Nat.le_of_lt hBw)).trans h)) (show F.told.answers W.tape from by rw [hb.tape]; exact hF))
  clear hx hok hTB hOB hF hP
  go_enter Tryf.func51, Tryf.ntmps51
  go_wp2_with (first
    | (go_at_call 54; (with_reducible refine HBq.out.mono ?_); rintro e w3 ⟨rfl, hb⟩; have HB := Lib.hid hb; clear hb)
    | (go_at_call 49; (with_reducible refine (HC.out _ HB.out).mono ?_); rintro e w5 ⟨rfl, hp5, hk5⟩; have HP5 := Lib.hid (And.intro hp5 hk5); clear hp5 hk5))
  go_end0
  exact ⟨rfl, HP5.out.1, (Kp.fresh HB.out (Nat.le_of_lt hBw)).trans HP5.out.2⟩
set_option maxHeartbeats 4000000 in
theorem zzq_any {F : Interp} {w : World} {x : ByteArray} {r : List Nat} {ascii : Bool} (hx : Str x r) (hok : ∀ c ∈ r, Pl.Ok c) (hs : x.size ≤ 1099511627776) (hT : Tabs w) (hO : Folds w) (hF : F.told.answers w.tape) :
    Calls Tryf.prog 39 #[.string x, .bool ascii] w fun e w' => e = .returned (.string (S (Pl.encs (Pl.quoteF ascii (Pl.bestF false r) r)))) ∧ Below w.heap.size w w' := by
  have HC := Lib.hid (pq_any (new_pr w ascii) (by simp) hx hok hs (fun W h => hT.below (pr_below h)) (fun W h => hO.below (pr_below h)) (show F.told.answers (w.alloc (blank ascii)).tape from hF))
  have HB := Lib.hid (show Below w.heap.size w (w.alloc (blank ascii)) from (Below.refl _ w).alloc (Nat.le_refl _) _)
  clear hx hok hT hO hF
  go_enter Tryf.func39, Tryf.ntmps39
  have HC1 := Lib.hid (by have := HC.out; unfold blank at this; exact this : Calls Tryf.prog 51 #[.pointer (some ⟨w.heap.size, 0, none⟩), .string x, .int .u8 0] (w.alloc (.cells #[.pointer none, .slice none 0 0, .map none, .int .i64 0, .int .u32 0, .int .u16 0, .bool false, .bool ascii, .int .u8 0, .bool false, .int .u8 0, .bool false, .int .u8 0, .slice none 0 0, .slice none 0 0, .slice none 0 0, .map none, .slice none 0 0, .slice none 0 0, .pointer none, .slice none 0 0, .slice none 0 0, .map none, .slice none 0 0, .string ⟨#[]⟩, .int .i64 0, .int .i64 0, .int .i64 0, .int .i64 0, .int .i64 0, .int .i64 0, .bool false, .int .i64 0, .int .i64 0, .int .i64 0, .int .i32 0, .int .u32 0, .bool false, .bool false, .bool false, .bool false, .int .i64 0, .int .i64 0] 84)) fun e w' => PrOut w.heap.size ascii (w.alloc (.cells #[.pointer none, .slice none 0 0, .map none, .int .i64 0, .int .u32 0, .int .u16 0, .bool false, .bool ascii, .int .u8 0, .bool false, .int .u8 0, .bool false, .int .u8 0, .slice none 0 0, .slice none 0 0, .slice none 0 0, .map none, .slice none 0 0, .slice none 0 0, .pointer none, .slice none 0 0, .slice none 0 0, .map none, .slice none 0 0, .string ⟨#[]⟩, .int .i64 0, .int .i64 0, .int .i64 0, .int .i64 0, .int .i64 0, .int .i64 0, .bool false, .int .i64 0, .int .i64 0, .int .i64 0, .int .i32 0, .int .u32 0, .bool false, .bool false, .bool false, .bool false, .int .i64 0, .int .i64 0] 84)) ([] ++ Pl.encs (Pl.quoteF ascii (Pl.bestF false r) r)) e w')
  have HB1 := Lib.hid (by have := HB.out; unfold blank at this; exact this : Below w.heap.size w (w.alloc (.cells #[.pointer none, .slice none 0 0, .map none, .int .i64 0, .int .u32 0, .int .u16 0, .bool false, .bool ascii, .int .u8 0, .bool false, .int .u8 0, .bool false, .int .u8 0, .slice none 0 0, .slice none 0 0, .slice none 0 0, .map none, .slice none 0 0, .slice none 0 0, .pointer none, .slice none 0 0, .slice none 0 0, .map none, .slice none 0 0, .string ⟨#[]⟩, .int .i64 0, .int .i64 0, .int .i64 0, .int .i64 0, .int .i64 0, .int .i64 0, .bool false, .int .i64 0, .int .i64 0, .int .i64 0, .int .i32 0, .int .u32 0, .bool false, .bool false, .bool false, .bool false, .int .i64 0, .int .i64 0] 84)))
  clear HC HB
  go_wp2_with (go_at_call 51; (with_reducible refine HC1.out.mono ?_); rintro e w5 ⟨rfl, ⟨u5, hp5⟩, hk5⟩; have hcv := conv_own hp5.own; have c5 := hp5.css)
  go_ret
  exact ⟨rfl, HB1.out.trans hk5.below⟩
theorem q_any {F : Interp} {w : World} {x : ByteArray} {r : List Nat} {ascii : Bool} (hx : Str x r) (hok : ∀ c ∈ r, Pl.Ok c) (hs : x.size ≤ 1099511627776) (hT : Tabs w) (hO : Folds w) (hF : F.told.answers w.tape) :
    Calls Tryf.prog 24 #[.string x, .bool ascii] w fun e w' => e = .returned (.string (S (Pl.encs (Pl.quoteF ascii (Pl.bestF false r) r)))) ∧ Below w.heap.size w w' := by
  have HC := Lib.hid (zzq_any (ascii := ascii) hx hok hs hT hO hF)
  clear hx hok hT hO hF
  go_enter Tryf.func24, Tryf.ntmps24
  go_wp2_with (go_at_call 39; (with_reducible refine HC.out.mono ?_); rintro e w5 ⟨rfl, hb⟩)
  go_ret
  exact ⟨rfl, hb⟩
theorem bq_any {w : World} {x : ByteArray} {r : List Nat} (hx : Str x r) (hok : ∀ c ∈ r, Pl.Ok c) (hs : x.size ≤ 1099511627776) :
    Calls Tryf.prog 30 #[.string x, .bool false] w fun e w' => e = .returned (.int .u8 (Pl.bestF false r)) ∧ Below w.heap.size w w' := by
  have HC := Lib.hid (best_any (w := w) false hx hok hs)
  have HC2 := Lib.hid (show Calls Tryf.prog 46 #[.string x, .bool false] w fun e w' => e = .returned (.int .u8 (Pl.bestF false r)) ∧ Below w.heap.size w w' from by
    clear hx hok
    go_enter Tryf.func46, Tryf.ntmps46
    go_wp2_with (go_at_call 54; (with_reducible refine HC.out.mono ?_); rintro e w5 ⟨rfl, hb⟩)
    go_ret
    exact ⟨rfl, hb⟩)
  clear hx hok HC
  go_enter Tryf.func30, Tryf.ntmps30
  go_wp2_with (go_at_call 46; (with_reducible refine HC2.out.mono ?_); rintro e w5 ⟨rfl, hb⟩)
  go_ret
  exact ⟨rfl, hb⟩

theorem out_len : ∀ (es : List (Nat × Nat)) (may : Bool), (∀ x ∈ es, Pl.Good x) → (Pl.encs (Pl.outF es may)).length ≤ 8 * es.length
  | [], _, _ => by simp [Pl.outF, Pl.encs]
  | (c, e) :: t, may, h => by
    have g := h (c, e) (by simp)
    have ih := out_len t may (fun x hx => h x (by simp [hx]))
    have := Pl.pwe_len (c := c) (e := e) (nx := t.head?.map (·.1)) (may := may) g.ok g.le
    rw [Pl.outF, Pl.encs_append, List.length_append, List.length_cons]; omega
theorem quote_size {q : Nat} {ascii : Bool} {r : List Nat} (hq : q = 34 ∨ q = 39) (hok : ∀ c ∈ r, Pl.Ok c) : (Pl.encs (Pl.quoteF ascii q r)).length ≤ 8 * (Pl.encs r).length + 2 := by
  rw [Pl.quote_len hq]
  have h := out_len (Pl.qItems ascii q none r) false (Pl.qItems_good hok)
  have h2 := encs_len_ge r
  have h3 := congrArg List.length (Pl.qItems_fst ascii q none r)
  rw [List.length_map] at h3
  unfold Pl.innerF
  omega
/-- what only gives of a text of one token: its kind, its unit, its text -/
structure OneIs (k u : Int) (tx : List UInt8) (w : World) (e : Ending) (w' : World) : Prop where
  out : ∃ (a c : Int) (i : Bool), e = .returned (.tuple #[.agg #[.int .i64 k, .int .i64 a, .int .i64 c, .int .i64 u, .bool i, .string (S tx)], .bool true])
  below : Below w.heap.size w w'
theorem only_is {R : List Nat} {k : Pl.Tok} (hok : ∀ c ∈ R, Pl.Ok c) (hb : R.head? ≠ some 65279) (hs : (Pl.encs R).length ≤ 1099511627776) (ht : Pl.toksF R = ([k], 0, false)) (w : World) :
    Calls Tryf.prog 16 #[.string (S (Pl.encs R))] w fun e w' => OneIs k.kind k.unit k.text w e w' := by
  refine (only_plain (by rw [S_size]; exact hs) (r := R) ⟨S_data _, hok, hb⟩).mono fun e w' h => ?_
  have := h.out
  rw [onlyT_mk ht] at this
  exact ⟨⟨_, _, _, this⟩, h.below⟩

theorem quote_only {q : Nat} {ascii : Bool} {r : List Nat} (hq : q = 34 ∨ q = 39) (hok : ∀ c ∈ r, Pl.Ok c) (hl : Pl.LowR ascii r) (hs : (Pl.encs (Pl.quoteF ascii q r)).length ≤ 1099511627776) (W : World) :
    Calls Tryf.prog 16 #[.string (S (Pl.encs (Pl.quoteF ascii q r)))] W fun e w' => OneIs 36 0 (Pl.encs r) W e w' := by
  have hh : Pl.quoteF ascii q r = q :: (Pl.innerF ascii q r ++ [q]) := by unfold Pl.quoteF; rw [if_neg (by omega)]
  have ht := Pl.quote_tok (ascii := ascii) (Y := []) (T := (Pl.encs (Pl.quoteF ascii q r)).length) hq hok hl
  rw [List.append_nil] at ht
  exact only_is (Pl.quote_ok hq hok) (by rw [hh]; simp; omega) hs (Pl.toks_one (by rw [hh, Pl.pk_cons]; omega) (show (36 : Nat) ≠ 0 by decide) ht) W

/-! ## the statements' small functions -/
theorem low_of {r : List Nat} (hok : ∀ c ∈ r, Pl.Ok c) (h : ∀ b ∈ Pl.encs r, b.toNat < 244) : ∀ c ∈ r, c < 1048576 := by
  intro c hc
  rcases Nat.lt_or_ge c 1048576 with g | g
  · exact g
  · exfalso
    have hs := (hok c hc).1
    unfold Pl.Sc at hs
    have hb : UInt8.ofNat (240 + c / 262144) ∈ Pl.enc c := by rw [enc4 (by omega) (by omega)]; simp
    have := h _ (List.mem_flatMap.mpr ⟨c, hc, hb⟩)
    simp at this
    omega
/-- do all bytes of a text meet a test -/
theorem low_any {x : ByteArray} (w : World) (hs : x.size ≤ 1099511627776) :
    Calls Tryf.prog 36 #[.string x] w fun e w' => (∃ b : Bool, e = .returned (.bool b) ∧ (b = true ↔ ∀ j, j < x.size → bt x j < 244)) ∧ w = w' := by
  go_enter Tryf.func36, Tryf.ntmps36
  go_wp2_with fail
  go_loopg [6] x.size (fun k iv wr => ∃ j : Nat, k = x.size - j ∧ j ≤ x.size ∧ iv = .int .i64 j ∧ w = wr ∧ Hid (∀ i, i < j → bt x i < 244))
  case atStart => exact ⟨0, rfl, Nat.zero_le _, rfl, rfl, Lib.hid (fun i h => absurd h (Nat.not_lt_zero i))⟩
  case round =>
    obtain ⟨j, rfl, hj, rfl, rfl, HD⟩ := hrel
    by_cases hlt : j < x.size
    · have hl : (j : Int) < (x.size : Int) := by omega
      have hbj := bt_eq hlt
      by_cases hb : bt x j < 244
      · have q : (x[j].toNat : Int) < 244 := by rw [hbj]; omega
        have HD2 := Lib.hid (show ∀ i, i < j + 1 → bt x i < 244 from fun i hi => by
          rcases Nat.lt_or_ge i j with q | q
          · exact HD.out i q
          · obtain rfl : i = j := by omega
            exact hb)
        clear hb hbj HD
        go_wp2_with fail
        go_roundg (x.size - (j + 1))
        case measure => omega
        case rel => exact ⟨j + 1, rfl, hlt, by simp, rfl, HD2⟩
      · have q : 244 ≤ (x[j].toNat : Int) := by rw [hbj]; omega
        have HN := Lib.hid (show ¬ ∀ i, i < x.size → bt x i < 244 from fun h => hb (h j hlt))
        clear hb hbj HD
        go_wp2_with fail
        go_ret
        exact ⟨⟨false, rfl, ⟨fun e => (by cases e), fun h => (HN.out h).elim⟩⟩, rfl⟩
    · obtain rfl : x.size = j := by omega
      go_wp2_with fail
      go_ret
      exact ⟨⟨true, rfl, ⟨fun _ => HD.out, fun _ => rfl⟩⟩, rfl⟩
theorem bt_mem {x : ByteArray} {b : UInt8} (h : b ∈ x.data.toList) : ∃ j, j < x.size ∧ bt x j = b.toNat := by
  obtain ⟨j, hj, rfl⟩ := List.mem_iff_getElem.1 h
  refine ⟨j, by rw [Array.length_toList] at hj; exact hj, ?_⟩
  unfold bt
  rw [List.getD_eq_getElem?_getD, List.getElem?_eq_getElem hj, Option.getD_some]
/-- low: a text that may be printed in ASCII, or any, is told ahead -/
theorem low_det {r : List Nat} {ascii : Bool} (hok : ∀ c ∈ r, Pl.Ok c) (hs : (Pl.encs r).length ≤ 1099511627776) :
    (Pl.LowR ascii r ∧ ∀ w, Calls Tryf.prog 21 #[.string (S (Pl.encs r)), .bool ascii] w fun e w' => e = .returned (.bool true) ∧ w = w') ∨
    ∀ w, Calls Tryf.prog 21 #[.string (S (Pl.encs r)), .bool ascii] w fun e w' => e = .returned (.bool false) ∧ w = w' := by
  have hsz : (S (Pl.encs r)).size ≤ 1099511627776 := by rw [S_size]; exact hs
  cases ascii with
  | false =>
    refine .inl ⟨fun h => (by cases h), fun w => ?_⟩
    go_enter Tryf.func21, Tryf.ntmps21
    go_wp2_with fail
    go_ret
    exact ⟨rfl, rfl⟩
  | true =>
    by_cases h : ∀ j, j < (S (Pl.encs r)).size → bt (S (Pl.encs r)) j < 244
    · have HH := Lib.hid h
      refine .inl ⟨fun _ => low_of hok (fun b hb => ?_), fun w => ?_⟩
      · obtain ⟨j, hj, e⟩ := bt_mem (x := S (Pl.encs r)) (by rw [S_data]; exact hb)
        rw [← e]; exact h j hj
      · clear h
        go_enter Tryf.func21, Tryf.ntmps21
        go_wp2_with (go_at_call 36; (with_reducible refine (low_any _ hsz).mono ?_); rintro e w' ⟨⟨b, rfl, hb⟩, rfl⟩; obtain rfl := hb.2 HH.out; clear hb)
        go_ret
        exact ⟨rfl, rfl⟩
    · have HH := Lib.hid h
      refine .inr fun w => ?_
      clear h
      go_enter Tryf.func21, Tryf.ntmps21
      go_wp2_with (go_at_call 36; (with_reducible refine (low_any _ hsz).mono ?_); rintro e w' ⟨⟨b, rfl, hb⟩, rfl⟩; obtain rfl : b = false := (by cases b with | false => rfl | true => exact absurd (hb.1 rfl) HH.out); clear hb)
      go_ret
      exact ⟨rfl, rfl⟩
/-- is a text plain behind a sign, told ahead -/
theorem plain_det {s : ByteArray} (hs : s.size ≤ 1099511627775) : (∃ r, s = S (Pl.encs r) ∧ (∀ c ∈ r, Pl.Ok c) ∧ ∀ w, Calls Tryf.prog 20 #[.string (⟨#[120]⟩ ++ s)] w fun e w' => e = .returned (.bool true) ∧ w = w') ∨
    ∀ w, Calls Tryf.prog 20 #[.string (⟨#[120]⟩ ++ s)] w fun e w' => e = .returned (.bool false) ∧ w = w' := by
  have hxs : (⟨#[120]⟩ ++ s : ByteArray).size ≤ 1099511627776 := by rw [ByteArray.size_append]; show 1 + s.size ≤ _; omega
  by_cases hp : ∃ r, PlainR (⟨#[120]⟩ ++ s) r
  · obtain ⟨r', hr'⟩ := hp
    obtain ⟨r, hr, hok⟩ := plain_x hr'
    refine .inl ⟨r, hr, hok, fun w => (IsPlain_any _ w hxs).mono ?_⟩
    rintro e w' ⟨⟨b, rfl, hb⟩, rfl⟩
    obtain rfl := hb.2 ⟨_, hr'⟩
    exact ⟨rfl, rfl⟩
  · refine .inr fun w => (IsPlain_any _ w hxs).mono ?_
    rintro e w' ⟨⟨b, rfl, hb⟩, rfl⟩
    obtain rfl : b = false := by
      cases b with
      | false => rfl
      | true => exact absurd (hb.1 rfl) hp
    exact ⟨rfl, rfl⟩
end Go.Proofs.YtmomkkakjkkakaaFmt
