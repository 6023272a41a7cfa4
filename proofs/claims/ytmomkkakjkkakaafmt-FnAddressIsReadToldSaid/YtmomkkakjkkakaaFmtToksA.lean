/-
  WALK of the reader's Tokens, comments and all.
-/
import Derived.Test.YtmomkkakjkkakaaFmtCom
set_option linter.unusedVariables false
set_option linter.unusedSimpArgs false
set_option maxRecDepth 100000
namespace Go.Proofs.YtmomkkakjkkakaaFmt
open Go.RowKit

/-- what Tokens gives -/
structure ToksAll (r : List Nat) (w : World) (e : Ending) (w' : World) : Prop where
  out : ∃ v c cs, e = .returned (.tuple #[v, c, .bool (Pl.toksF r).2.2]) ∧ w'.ownsRow (w.heap.size + 1) 25 6 v (Pl.toksF r).1.length ((Pl.toksF r).1.flatMap tokCells) ∧ w'.ownsRow (w.heap.size + 1) 97 2 c (Pl.toksF r).2.1 cs
  below : Below w.heap.size w w'

theorem comF_cnt (n : Nat) : ∀ r : List Nat, r.length ≤ n → (Pl.comF r).2.1 + (Pl.comF r).1.length ≤ r.length := by
  induction n with
  | zero => intro r h; have : r = [] := List.eq_nil_of_length_eq_zero (by omega); subst this; rw [Pl.comF_no (by simp [Pl.pk])]; simp
  | succ n ih =>
    intro r h
    by_cases h1 : Pl.pk r 0 = 47 ∧ Pl.pk r 1 = 42
    · have hne : r ≠ [] := by rintro rfl; simp [Pl.pk] at h1
      have hl := Pl.tail_lt hne
      cases h2 : Pl.skipC (r.drop 2) with
      | none => rw [Pl.comF_open h1 h2]; simp only [List.length_nil]; omega
      | some t =>
        rw [Pl.comF_more h1 h2]
        have h3 := Pl.skipC_len _ _ h2
        simp at h3
        have := ih t (by omega)
        simp only []; omega
    · rw [Pl.comF_no h1]; simp
theorem toksG_endA {T f : Nat} {r : List Nat} (h : (Pl.nextF T (Pl.comF r).1).tok.kind = 0) : Pl.toksG T (f + 1) r = ([], (Pl.comF r).2.1, (Pl.comF r).2.2 || (Pl.nextF T (Pl.comF r).1).opn) := by
  simp only [Pl.toksG]
  rw [if_pos h]
theorem toksG_moreA {T f : Nat} {r : List Nat} (h : (Pl.nextF T (Pl.comF r).1).tok.kind ≠ 0) :
    Pl.toksG T (f + 1) r = ({ (Pl.nextF T (Pl.comF r).1).tok with start := Pl.posN T (Pl.comF r).1, stop := Pl.posN T (Pl.nextF T (Pl.comF r).1).rest } :: (Pl.toksG T f (Pl.nextF T (Pl.comF r).1).rest).1,
      (Pl.comF r).2.1 + (Pl.toksG T f (Pl.nextF T (Pl.comF r).1).rest).2.1, (Pl.comF r).2.2 || (Pl.nextF T (Pl.comF r).1).opn || (Pl.toksG T f (Pl.nextF T (Pl.comF r).1).rest).2.2) := by
  simp only [Pl.toksG]
  rw [if_neg h]

set_option maxHeartbeats 4000000 in
theorem Tokens_all (s : ByteArray) (r : List Nat) (w : World) (hr : s.data.toList = Pl.encs r) (hok : ∀ c ∈ r, Pl.Ok c) (hs : s.size ≤ 1099511627776) :
    Calls Tryf.prog 28 #[.string s] w fun e w' => ToksAll r w e w' := by
  have hlen : s.size = (Pl.encs r).length := by rw [← hr, Array.length_toList]; rfl
  have HF := Lib.hid (show Pl.toksF r = Pl.toksG s.size (r.length + 1) r by unfold Pl.toksF; rw [hlen])
  have hp0 : Pl.posN s.size r = 0 := by unfold Pl.posN; omega
  have hl0 : Lx (w.alloc (.cells #[.string s, .int .i64 0, .slice none 0 0, .bool false] 53)) w.heap.size s r (.slice none 0 0) false := by
    refine ⟨?_, ?_, hok, by omega, hs⟩
    · rw [hp0]; exact Blk.new _ _ _
    · rw [hp0]; simpa using hr
  have HL0 := Lib.hid hl0
  have hrl : r.length ≤ 1099511627776 := by have := encs_len_ge r; omega
  obtain ⟨i0, hi, hz0, hz1, hz2⟩ := info_parts infoTok
  clear hl0 hp0 hlen hr hok
  go_enter Tryf.func28, Tryf.ntmps28
  go_wp2_with fail
  go_loopg [6] (r.length + 1) (fun k ov wr => ∃ (f : Nat) (r' : List Nat) (ts : List Pl.Tok) (b' : Bool) (cv : Value) (m : Nat) (ys : List Value), k = r'.length + 1 ∧ Lx wr w.heap.size s r' cv b' ∧
    wr.ownsRow (w.heap.size + 1) 25 6 ov ts.length (ts.flatMap tokCells) ∧ wr.ownsRow (w.heap.size + 1) 97 2 cv m ys ∧ Below w.heap.size w wr ∧ ts.length + r'.length ≤ r.length ∧ m + r'.length ≤ r.length ∧
    Hid (r'.length < f ∧ Pl.toksF r = (ts ++ (Pl.toksG s.size f r').1, m + (Pl.toksG s.size f r').2.1, b' || (Pl.toksG s.size f r').2.2)))
  case atStart => exact ⟨r.length + 1, r, [], false, .slice none 0 0, 0, [], rfl, HL0.out, World.ownsRow_nil _ _ _ _, World.ownsRow_nil _ _ _ _, (Below.refl _ _).alloc (Nat.le_refl _) _, by simp, by simp, Lib.hid ⟨by omega, by rw [HF.out]; simp⟩⟩
  case round =>
    obtain ⟨f, r', ts, b', cv, m, ys, rfl, h, ho, hc, hbel, hcnt, hcm, HE⟩ := hrel
    obtain ⟨f, rfl⟩ : ∃ f', f = f' + 1 := ⟨f - 1, by have := HE.out.1; omega⟩
    have hcl := comF_cnt _ r' (Nat.le_refl _)
    obtain ⟨r1, hr1⟩ : ∃ r1, r1 = (Pl.comF r').1 := ⟨_, rfl⟩
    rw [← hr1] at hcl
    have HR1 := Lib.hid hr1
    have hBw := h.blk.lt
    by_cases hk : (Pl.nextF s.size r1).tok.kind = 0
    · have k0 : (((Pl.nextF s.size r1).tok.kind : Int) == 0) = true := by simp [hk]
      have HT := Lib.hid (toksG_endA (f := f) (by rw [← hr1]; exact hk))
      clear hk hr1
      go_wp2_with (first | (go_at_call 43; refine (comment_any (by assumption) hc (by omega)).mono ?_; rintro e w1 ⟨rfl, ⟨cm1, xs1, hl1, hc1⟩, hk1⟩; rw [← HR1.out] at hl1; have c1 := hl1.cell1) | (go_at_call 44; refine (next_from hl1 (gr_refl _ _)).mono ?_; rintro e w' ⟨rfl, h', g'⟩; have hBl := h'.blk.lt; have c2 := h'.cell2; have c3 := h'.cell3))
      go_quiet (fail)
      go_wp2_with fail
      go_ret3
      have hbl : Below w.heap.size w w' := (hbel.trans hk1.below).trans (gr_below g' (Nat.le_refl _) (hbel.trans hk1.below).size)
      have how := (((hk1.row (by decide) ho).kept g' (own_ne (hk1.row (by decide) ho))).alloc (.cells #[.int .i64 ((Pl.nextF s.size r1).tok.kind : Int), .int .i64 0, .int .i64 0, .int .i64 (Pl.nextF s.size r1).tok.unit, .bool (Pl.nextF s.size r1).tok.id, .string (S (Pl.nextF s.size r1).tok.text)] 25))
      have hcw := ((hc1.kept g' (own_ne hc1)).alloc (.cells #[.int .i64 ((Pl.nextF s.size r1).tok.kind : Int), .int .i64 0, .int .i64 0, .int .i64 (Pl.nextF s.size r1).tok.unit, .bool (Pl.nextF s.size r1).tok.id, .string (S (Pl.nextF s.size r1).tok.text)] 25))
      refine ⟨⟨u6, cm1, xs1, ?_, ?_, ?_⟩, ?_⟩
      · rw [HE.out.2, HT.out, ← HR1.out]; simp only [Bool.or_assoc]; rfl
      · rw [HE.out.2, HT.out]
        simp only [List.append_nil]
        exact how
      · rw [HE.out.2, HT.out]
        exact hcw
      · exact below_drewN (hbl.alloc (Nat.le_of_lt hBl) _) _
    · have k0 : (((Pl.nextF s.size r1).tok.kind : Int) == 0) = false := by simp; omega
      have HT := Lib.hid (toksG_moreA (f := f) (by rw [← hr1]; exact hk))
      have HLT := Lib.hid (nextF_lt hk)
      clear hk hr1
      go_wp2_with (first | (go_at_call 43; refine (comment_any (by assumption) hc (by omega)).mono ?_; rintro e w1 ⟨rfl, ⟨cm1, xs1, hl1, hc1⟩, hk1⟩; rw [← HR1.out] at hl1; have c1 := hl1.cell1) | (go_at_call 44; refine (next_from hl1 (gr_refl _ _)).mono ?_; rintro e w' ⟨rfl, h', g'⟩; have hBl := h'.blk.lt; have c1' := h'.cell1))
      go_region
      obtain ⟨X, hX⟩ : ∃ X : List Value, X = tokCells { (Pl.nextF s.size r1).tok with start := Pl.posN s.size r1, stop := Pl.posN s.size (Pl.nextF s.size r1).rest } := ⟨_, rfl⟩
      have HX := Lib.hid hX
      clear hX
      have ho1 := hk1.row (by decide) ho
      have how := ho1.kept g' (own_ne ho1)
      have HOW := Lib.hid how
      have hcw := hc1.kept g' (own_ne hc1)
      have HCW := Lib.hid hcw
      have hbl : Below w.heap.size w w' := (hbel.trans hk1.below).trans (gr_below g' (Nat.le_refl _) (hbel.trans hk1.below).size)
      clear how ho1 hcw
      have hcn : ts.length + 1 ≤ 1099511627776 := by have := HLT.out; omega
      go_wp2_with (at_builtin; refine wpList_append_own _ rfl _ _ 42 rfl (w.heap.size + 1) 25 i0 _ 6 56 Tryf.underlying42 hi hz0 hz1 hz2 rfl (by decide) _ ts.length (ts.flatMap tokCells) rfl ?own _ 1 1 X rfl ?hl ?hnews ?h1 (by unfold maxLen; omega) (by omega) ?hbase ?grow)
      case own => exact (HOW.out.alloc _).alloc _
      case hl => rw [HX.out]; rfl
      case hnews =>
        rw [HX.out]
        exact fun j u hu => hu
      case h1 =>
        rw [HX.out]
        intro u hu
        simp only [tokCells, List.mem_cons, List.mem_nil_iff, or_false] at hu
        rcases hu with rfl | rfl | rfl | rfl | rfl | rfl <;> rfl
      case hbase =>
        omega
      case grow =>
        intro v' w3 hown3 hgrow3 hnil3
        have hoa : ∀ o1 o2, (((w'.alloc o1).alloc o2).drew).ownsRow (w.heap.size + 1) 25 6 _ ts.length (ts.flatMap tokCells) := fun o1 o2 => (HOW.out.alloc o1).alloc o2
        have hca : ∀ o1 o2, (((w'.alloc o1).alloc o2).drew).ownsRow (w.heap.size + 1) 97 2 cm1 _ xs1 := fun o1 o2 => (HCW.out.alloc o1).alloc o2
        have h3 := (h'.keep (gr_drew (gr_alloc (gr_alloc (gr_refl w' none) _) _)) (by simp)).keep hgrow3 (own_ne' HOW.out)
        have hk3 := Kp.own (hoa _ _) hgrow3 (by show _ ≤ ((w'.alloc _).alloc _).heap.size; simp only [World.size_alloc]; omega)
        have hc3 := hk3.row (by decide) (hca _ _)
        have hb3 : Below w.heap.size w w3 :=
          hbl.trans (Below.trans (gr_below (B := w.heap.size + 1) (B' := w.heap.size) (gr_drew (gr_alloc (gr_alloc (gr_refl w' _) _) _)) (by omega) (Nat.le_of_lt hBl)) hk3.below)
        go_wp2_with fail
        go_roundg ((Pl.nextF s.size r1).rest.length + 1)
        · refine ⟨f, (Pl.nextF s.size r1).rest, ts ++ [{ (Pl.nextF s.size r1).tok with start := Pl.posN s.size r1, stop := Pl.posN s.size (Pl.nextF s.size r1).rest }], _, cm1, _, xs1, rfl, h3, ?_, hc3, hb3, ?_, ?_, Lib.hid ⟨?_, ?_⟩⟩
          · have e0 := hown3
            rw [HX.out] at e0
            simpa using e0
          · have := HLT.out; simp only [List.length_append, List.length_singleton]; omega
          · have := HLT.out; omega
          · have := HLT.out; have := HE.out.1; omega
          · have e1 := HE.out.2; rw [HT.out, ← HR1.out] at e1; rw [e1]
            simp only [List.append_assoc, List.singleton_append, Bool.or_assoc, Nat.add_assoc]
        · have := HLT.out; omega

end Go.Proofs.YtmomkkakjkkakaaFmt
