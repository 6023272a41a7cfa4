/-
  WALK of the reader's Tokens where no comment stands.
-/
import Derived.Test.YtmomkkakjkkakaaFmtTok
import Derived.Deep.AppendLies
set_option linter.unusedVariables false
set_option linter.unusedSimpArgs false
set_option maxRecDepth 100000
namespace Go.Proofs.YtmomkkakjkkakaaFmt
open Go.RowKit


/-- what Tokens gives -/
structure ToksOut (s : ByteArray) (r : List Nat) (w : World) (e : Ending) (w' : World) : Prop where
  out : ∃ v, e = .returned (.tuple #[v, .slice none 0 0, .bool (Pl.toksF r).2.2]) ∧ w'.ownsRow (w.heap.size + 1) 25 6 v (Pl.toksF r).1.length ((Pl.toksF r).1.flatMap tokCells)
  below : Below w.heap.size w w'

theorem below_drewN {B : Nat} {a w : World} (h : Below B a w) (n : Nat) : Below B a (w.drewN n) := ⟨h.os, h.tape, h.output, h.size, h.block⟩
theorem gr_below {w w' : World} {B B' : Nat} (g : w.grownBy w' (some B)) (h : B' ≤ B) (hs : B' ≤ w.heap.size) : Below B' w w' :=
  ⟨g.os, g.tape, g.output, g.size, fun k hk => g.block k (by omega) (by intro e; injection e with e; omega)⟩
theorem own_ne {w : World} {B : Nat} {e : TypeId} {size n : Nat} {v : Value} {xs : List Value} (h : w.ownsRow (B + 1) e size v n xs) : v.ownBlock = none ∨ v.ownBlock ≠ some B := by
  cases hv : v.ownBlock with
  | none => exact Or.inl rfl
  | some k => right; have := (h.lt k hv).1; intro e; injection e with e; omega
theorem own_ne' {w : World} {B : Nat} {e : TypeId} {size n : Nat} {v : Value} {xs : List Value} (h : w.ownsRow (B + 1) e size v n xs) : some B ≠ v.ownBlock := by
  rcases own_ne h with h | h
  · rw [h]; simp
  · exact h.symm
theorem below_own {w w' : World} {B : Nat} {e : TypeId} {size n : Nat} {v : Value} {xs : List Value} (h : w.ownsRow (B + 1) e size v n xs) (g : w.grownBy w' v.ownBlock) (hb : B ≤ w.heap.size) : Below B w w' :=
  ⟨g.os, g.tape, g.output, g.size, fun k hk => g.block k (by omega) (by
    intro e
    have := (h.lt k e.symm).1
    omega)⟩
set_option maxHeartbeats 4000000 in
theorem Tokens_any (s : ByteArray) (r : List Nat) (w : World) (hr : s.data.toList = Pl.encs r) (hok : ∀ c ∈ r, Pl.Ok c) (hs : s.size ≤ 1099511627776) (hnc : noC s.size (r.length + 1) r) :
    Calls Tryf.prog 28 #[.string s] w fun e w' => ToksOut s r w e w' := by
  have hlen : s.size = (Pl.encs r).length := by rw [← hr, Array.length_toList]; rfl
  have HF := Lib.hid (show Pl.toksF r = Pl.toksG s.size (r.length + 1) r by unfold Pl.toksF; rw [hlen])
  have hp0 : Pl.posN s.size r = 0 := by unfold Pl.posN; omega
  have hl0 : Lx (w.alloc (.cells #[.string s, .int .i64 0, .slice none 0 0, .bool false] 53)) w.heap.size s r (.slice none 0 0) false := by
    refine ⟨?_, ?_, hok, by omega, hs⟩
    · rw [hp0]; exact Blk.new _ _ _
    · rw [hp0]; simpa using hr
  have HL0 := Lib.hid hl0
  have HNC0 := Lib.hid hnc
  have hrl : r.length ≤ 1099511627776 := by have := encs_len_ge r; omega
  obtain ⟨i0, hi, hz0, hz1, hz2⟩ := info_parts infoTok
  clear hl0 hnc hp0 hlen hr hok
  go_enter Tryf.func28, Tryf.ntmps28
  go_wp2_with fail
  go_loopg [6] (r.length + 1) (fun k ov wr => ∃ (f : Nat) (r' : List Nat) (ts : List Pl.Tok) (b' : Bool), k = r'.length + 1 ∧ Lx wr w.heap.size s r' (.slice none 0 0) b' ∧
    wr.ownsRow (w.heap.size + 1) 25 6 ov ts.length (ts.flatMap tokCells) ∧ Below w.heap.size w wr ∧ ts.length + r'.length ≤ r.length ∧
    Hid (r'.length < f ∧ noC s.size f r' ∧ Pl.toksF r = (ts ++ (Pl.toksG s.size f r').1, (Pl.toksF r).2.1, (Pl.toksF r).2.2) ∧ (Pl.toksF r).2.2 = (b' || (Pl.toksG s.size f r').2.2)))
  case atStart => exact ⟨r.length + 1, r, [], false, rfl, HL0.out, World.ownsRow_nil _ _ _ _, (Below.refl _ _).alloc (Nat.le_refl _) _, by simp, Lib.hid ⟨by omega, HNC0.out, by rw [HF.out]; simp, by rw [HF.out]; simp⟩⟩
  case round =>
    obtain ⟨f, r', ts, b', rfl, h, ho, hbel, hcnt, HE⟩ := hrel
    obtain ⟨f, rfl⟩ : ∃ f', f = f' + 1 := ⟨f - 1, by have := HE.out.1; omega⟩
    have HNC := Lib.hid HE.out.2.1.1
    have c1 := h.cell1
    by_cases hk : (Pl.nextF s.size r').tok.kind = 0
    · have k0 : (((Pl.nextF s.size r').tok.kind : Int) == 0) = true := by simp [hk]
      have HT := Lib.hid (toksG_end (f := f) HNC.out hk)
      clear hk
      go_wp2_with (first | (go_at_call 43; refine (comment_no (by assumption) HNC.out).mono ?_; rintro e w' ⟨rfl, rfl⟩) | (go_at_call 44; refine (next_from (by assumption) (gr_refl _ _)).mono ?_; rintro e w' ⟨rfl, h', g'⟩; have hBl := h'.blk.lt; have c2 := h'.cell2; have c3 := h'.cell3))
      go_quiet (fail)
      go_wp2_with fail
      go_ret3
      have hbl : Below w.heap.size w w' := hbel.trans (gr_below g' (Nat.le_refl _) hbel.size)
      have how := (ho.kept g' (own_ne ho)).alloc (.cells #[.int .i64 ((Pl.nextF s.size r').tok.kind : Int), .int .i64 0, .int .i64 0, .int .i64 (Pl.nextF s.size r').tok.unit, .bool (Pl.nextF s.size r').tok.id, .string (S (Pl.nextF s.size r').tok.text)] 25)
      refine ⟨⟨u6, ?_, ?_⟩, ?_⟩
      · rw [HE.out.2.2.2, HT.out]; rfl
      · rw [HE.out.2.2.1, HT.out]
        simp only [List.append_nil]
        exact how
      · exact below_drewN (hbl.alloc (Nat.le_of_lt hBl) _) _
    · have k0 : (((Pl.nextF s.size r').tok.kind : Int) == 0) = false := by simp; omega
      have HT := Lib.hid (toksG_more (f := f) HNC.out hk)
      have HLT := Lib.hid (nextF_lt hk)
      have HNC2 := Lib.hid (HE.out.2.1.2 hk)
      clear hk
      go_wp2_with (first | (go_at_call 43; refine (comment_no (by assumption) HNC.out).mono ?_; rintro e w' ⟨rfl, rfl⟩) | (go_at_call 44; refine (next_from (by assumption) (gr_refl _ _)).mono ?_; rintro e w' ⟨rfl, h', g'⟩; have hBl := h'.blk.lt; have c1' := h'.cell1))
      go_region
      obtain ⟨X, hX⟩ : ∃ X : List Value, X = tokCells { (Pl.nextF s.size r').tok with start := Pl.posN s.size r', stop := Pl.posN s.size (Pl.nextF s.size r').rest } := ⟨_, rfl⟩
      have HX := Lib.hid hX
      clear hX
      have how := ho.kept g' (own_ne ho)
      have HOW := Lib.hid how
      have hbl : Below w.heap.size w w' := hbel.trans (gr_below g' (Nat.le_refl _) hbel.size)
      clear how
      have hcn : ts.length + 1 ≤ 1099511627776 := by have := HLT.out; omega
      go_wp2_with (at_builtin; refine wpList_append_own _ rfl _ _ 42 rfl (w.heap.size + 1) 25 i0 _ 6 56 Tryf.underlying42 hi hz0 hz1 hz2 rfl (by decide) _ ts.length (ts.flatMap tokCells) rfl ?own _ 1 1 X rfl ?hl ?hnews ?h1 (by unfold maxLen; omega) (by omega) ?hbase ?grow)
      case own => exact (HOW.out.alloc _).alloc _
      case hl => rw [HX.out]; rfl
      case hnews =>
        rw [HX.out]
        exact fun j u hu => hu
      case h1 =>
        rw [HX.out]
        intro u hu
        simp only [tokCells, List.mem_cons, List.mem_nil_iff, or_false] at hu
        rcases hu with rfl | rfl | rfl | rfl | rfl | rfl <;> rfl
      case hbase =>
        omega
      case grow =>
        intro v' w3 hown3 hgrow3 hnil3
        have h3 : Lx w3 w.heap.size s (Pl.nextF s.size r').rest (.slice none 0 0) (b' || (Pl.nextF s.size r').opn) :=
          (h'.keep (gr_drew (gr_alloc (gr_alloc (gr_refl w' none) _) _)) (by simp)).keep hgrow3 (own_ne' HOW.out)
        have hb3 : Below w.heap.size w w3 :=
          hbl.trans (Below.trans (gr_below (B := w.heap.size + 1) (B' := w.heap.size) (gr_drew (gr_alloc (gr_alloc (gr_refl w' _) _) _)) (by omega) (Nat.le_of_lt hBl)) (below_own (w := ((w'.alloc _).alloc _).drew) ((HOW.out.alloc _).alloc _) hgrow3 (by show _ ≤ ((w'.alloc _).alloc _).heap.size; simp only [World.size_alloc]; omega)))
        go_wp2_with fail
        go_roundg ((Pl.nextF s.size r').rest.length + 1)
        · refine ⟨f, (Pl.nextF s.size r').rest, ts ++ [{ (Pl.nextF s.size r').tok with start := Pl.posN s.size r', stop := Pl.posN s.size (Pl.nextF s.size r').rest }], b' || (Pl.nextF s.size r').opn, rfl, h3, ?_, hb3, ?_, Lib.hid ⟨?_, HNC2.out, ?_, ?_⟩⟩
          · have e0 := hown3
            rw [HX.out] at e0
            simpa using e0
          · have := HLT.out; simp only [List.length_append, List.length_singleton]; omega
          · have := HLT.out; have := HE.out.1; omega
          · have e1 := HE.out.2.2.1; rw [HT.out] at e1; rw [List.append_assoc]; exact e1
          · have e1 := HE.out.2.2.2; rw [HT.out] at e1; rw [Bool.or_assoc]; exact e1
        · exact Nat.succ_lt_succ HLT.out

end Go.Proofs.YtmomkkakjkkakaaFmt
