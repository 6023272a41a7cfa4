/-
  WALK of only: the only token of a text.
-/
import Derived.Test.YtmomkkakjkkakaaFmtToksA
import Derived.Test.YtmomkkakjkkakaaFmtIsp
set_option linter.unusedVariables false
set_option linter.unusedSimpArgs false
set_option maxRecDepth 100000
namespace Go.Proofs.YtmomkkakjkkakaaFmt
open Go.RowKit

def onlyT (r : List Nat) : Option Pl.Tok := if (Pl.toksF r).1.length = 1 ∧ (Pl.toksF r).2.1 = 0 ∧ (Pl.toksF r).2.2 = false then (Pl.toksF r).1.head? else none
theorem onlyT_some {r : List Nat} {t : Pl.Tok} (h : onlyT r = some t) : Pl.toksF r = ([t], 0, false) := by
  unfold onlyT at h
  split at h
  · rename_i hc
    obtain ⟨h1, h2, h3⟩ := hc
    cases hl : (Pl.toksF r).1 with
    | nil => rw [hl] at h; cases h
    | cons a b =>
      rw [hl] at h h1
      simp only [List.head?_cons, Option.some.injEq] at h
      subst h
      have : b = [] := List.eq_nil_of_length_eq_zero (by simp only [List.length_cons] at h1; omega)
      subst this
      exact Prod.ext hl (Prod.ext h2 h3)
  · cases h
theorem onlyT_mk {r : List Nat} {t : Pl.Tok} (h : Pl.toksF r = ([t], 0, false)) : onlyT r = some t := by
  unfold onlyT; rw [h]; rfl
def noTok : Value := .agg #[.int .i64 0, .int .i64 0, .int .i64 0, .int .i64 0, .bool false, .string ⟨#[]⟩]
/-- what only gives -/
structure OnlyOut (o : Option Pl.Tok) (w : World) (e : Ending) (w' : World) : Prop where
  out : e = .returned (.tuple #[(match o with | some t => .agg (tokCells t).toArray | none => noTok), .bool o.isSome])
  below : Below w.heap.size w w'

theorem only_bad {x : ByteArray} {w : World} (hs : x.size ≤ 1099511627776) (hp : ¬ ∃ r, PlainR x r) : Calls Tryf.prog 16 #[.string x] w fun e w' => OnlyOut none w e w' := by
  have hP := IsPlain_any x (w.alloc (.cells #[.int .i64 0, .int .i64 0, .int .i64 0, .int .i64 0, .bool false, .string ⟨#[]⟩] 25)) hs
  have HP := Lib.hid hp
  have fz0 := (Blk.new w 25 #[.int .i64 0, .int .i64 0, .int .i64 0, .int .i64 0, .bool false, .string ⟨#[]⟩]).frozen 0
  have fz1 := (Blk.new w 25 #[.int .i64 0, .int .i64 0, .int .i64 0, .int .i64 0, .bool false, .string ⟨#[]⟩]).frozen 1
  have fz2 := (Blk.new w 25 #[.int .i64 0, .int .i64 0, .int .i64 0, .int .i64 0, .bool false, .string ⟨#[]⟩]).frozen 2
  have fz3 := (Blk.new w 25 #[.int .i64 0, .int .i64 0, .int .i64 0, .int .i64 0, .bool false, .string ⟨#[]⟩]).frozen 3
  have fz4 := (Blk.new w 25 #[.int .i64 0, .int .i64 0, .int .i64 0, .int .i64 0, .bool false, .string ⟨#[]⟩]).frozen 4
  have fz5 := (Blk.new w 25 #[.int .i64 0, .int .i64 0, .int .i64 0, .int .i64 0, .bool false, .string ⟨#[]⟩]).frozen 5
  clear hp
  go_enter Tryf.func16, Tryf.ntmps16
  go_wp2_with (go_at_call 20; (with_reducible refine hP.mono ?_); rintro e w' ⟨⟨b, rfl, hb⟩, rfl⟩; obtain rfl : b = false := (by cases b with | false => rfl | true => exact absurd (hb.1 rfl) HP.out); clear hb)
  apply bodyPost_ret (v := .tuple #[noTok, .bool false])
  · simp [results, Tryf.results16, go_sem, noTok]
  · rfl
  exact ⟨rfl, (Below.refl _ _).alloc (Nat.le_refl _) _⟩

theorem own_form {w : World} {B size n : Nat} {T : TypeId} {v : Value} {xs : List Value} (h : w.ownsRow B T size v n xs) : ∃ ao cap, v = .slice ao n cap := by
  rcases h.2 with ⟨rfl, rfl⟩ | ⟨g, cap, cur, rfl, _⟩
  · exact ⟨none, 0, rfl⟩
  · exact ⟨_, cap, rfl⟩
/-- Tokens where there is one token -/
structure OneOut (t : Pl.Tok) (w : World) (e : Ending) (w' : World) : Prop where
  out : ∃ g cap co cc, e = .returned (.tuple #[.slice (some ⟨g, 0, none⟩) 1 cap, .slice co 0 cc, .bool false]) ∧ w'.cell? ⟨g, 0, none⟩ = some (.int .i64 t.kind) ∧ w'.cell? ⟨g, 1, none⟩ = some (.int .i64 t.start) ∧
    w'.cell? ⟨g, 2, none⟩ = some (.int .i64 t.stop) ∧ w'.cell? ⟨g, 3, none⟩ = some (.int .i64 t.unit) ∧ w'.cell? ⟨g, 4, none⟩ = some (.bool t.id) ∧ w'.cell? ⟨g, 5, none⟩ = some (.string (S t.text))
  below : Below w.heap.size w w'
theorem toks_one_any {s : ByteArray} {r : List Nat} {t : Pl.Tok} (w : World) (hr : s.data.toList = Pl.encs r) (hok : ∀ c ∈ r, Pl.Ok c) (hs : s.size ≤ 1099511627776) (ht : Pl.toksF r = ([t], 0, false)) :
    Calls Tryf.prog 28 #[.string s] w fun e w' => OneOut t w e w' := by
  refine (Tokens_all s r w hr hok hs).mono fun e w' ⟨⟨v, c, cs, he, ho, hc⟩, hb⟩ => ?_
  rw [ht] at he ho hc
  simp only [List.length_singleton, List.flatMap_cons, List.flatMap_nil, List.append_nil] at he ho hc
  obtain ⟨co, cc, rfl⟩ := own_form hc
  rcases ho.2 with ⟨_, h0⟩ | ⟨g, cap, cur, rfl, _, hg, _, _, hsz, htk⟩
  · omega
  · have cell : ∀ j u, (tokCells t)[j]? = some u → w'.cell? ⟨g, j, none⟩ = some u := by
      intro j u hu
      rw [cell_of_row w' g j cur _ (0, 0) hg]
      rw [← htk, List.getElem?_take] at hu
      split at hu
      · simpa using hu
      · cases hu
    exact ⟨⟨g, cap, co, cc, he, cell 0 _ rfl, cell 1 _ rfl, cell 2 _ rfl, cell 3 _ rfl, cell 4 _ rfl, cell 5 _ rfl⟩, hb⟩
/-- Tokens where there is none, or several, or it is left open -/
structure ElseOut (r : List Nat) (w : World) (e : Ending) (w' : World) : Prop where
  out : ∃ ao cap co cc, e = .returned (.tuple #[.slice ao (Pl.toksF r).1.length cap, .slice co (Pl.toksF r).2.1 cc, .bool (Pl.toksF r).2.2])
  below : Below w.heap.size w w'
theorem toks_else_any {s : ByteArray} {r : List Nat} (w : World) (hr : s.data.toList = Pl.encs r) (hok : ∀ c ∈ r, Pl.Ok c) (hs : s.size ≤ 1099511627776) :
    Calls Tryf.prog 28 #[.string s] w fun e w' => ElseOut r w e w' := by
  refine (Tokens_all s r w hr hok hs).mono fun e w' ⟨⟨v, c, cs, he, ho, hc⟩, hb⟩ => ?_
  obtain ⟨co, cc, rfl⟩ := own_form hc
  obtain ⟨ao, cap, rfl⟩ := own_form ho
  exact ⟨⟨ao, cap, co, cc, he⟩, hb⟩

theorem toks_else_as {s : ByteArray} {r : List Nat} {n m : Nat} {o : Bool} (w : World) (hr : s.data.toList = Pl.encs r) (hok : ∀ c ∈ r, Pl.Ok c) (hs : s.size ≤ 1099511627776) (hn : (Pl.toksF r).1.length = n) (hm : (Pl.toksF r).2.1 = m) (ho : (Pl.toksF r).2.2 = o) :
    Calls Tryf.prog 28 #[.string s] w fun e w' => (∃ ao cap co cc, e = .returned (.tuple #[.slice ao n cap, .slice co m cc, .bool o])) ∧ Below w.heap.size w w' := by
  subst hn hm ho
  exact (toks_else_any w hr hok hs).mono fun e w' h => ⟨h.out, h.below⟩

set_option maxHeartbeats 1000000 in
theorem only_plain {x : ByteArray} {w : World} {r : List Nat} (hs : x.size ≤ 1099511627776) (hp : PlainR x r) : Calls Tryf.prog 16 #[.string x] w fun e w' => OnlyOut (onlyT r) w e w' := by
  have hP := IsPlain_any x (w.alloc (.cells #[.int .i64 0, .int .i64 0, .int .i64 0, .int .i64 0, .bool false, .string ⟨#[]⟩] 25)) hs
  have HP := Lib.hid hp
  have fz0 := (Blk.new w 25 #[.int .i64 0, .int .i64 0, .int .i64 0, .int .i64 0, .bool false, .string ⟨#[]⟩]).frozen 0
  have fz1 := (Blk.new w 25 #[.int .i64 0, .int .i64 0, .int .i64 0, .int .i64 0, .bool false, .string ⟨#[]⟩]).frozen 1
  have fz2 := (Blk.new w 25 #[.int .i64 0, .int .i64 0, .int .i64 0, .int .i64 0, .bool false, .string ⟨#[]⟩]).frozen 2
  have fz3 := (Blk.new w 25 #[.int .i64 0, .int .i64 0, .int .i64 0, .int .i64 0, .bool false, .string ⟨#[]⟩]).frozen 3
  have fz4 := (Blk.new w 25 #[.int .i64 0, .int .i64 0, .int .i64 0, .int .i64 0, .bool false, .string ⟨#[]⟩]).frozen 4
  have fz5 := (Blk.new w 25 #[.int .i64 0, .int .i64 0, .int .i64 0, .int .i64 0, .bool false, .string ⟨#[]⟩]).frozen 5
  clear hp
  by_cases h1 : ∃ t, Pl.toksF r = ([t], 0, false)
  · obtain ⟨t, ht⟩ := h1
    rw [onlyT_mk ht]
    have HT := Lib.hid ht
    clear ht
    go_enter Tryf.func16, Tryf.ntmps16
    go_wp2_with (first | (go_at_call 20; (with_reducible refine hP.mono ?_); rintro e w' ⟨⟨b, rfl, hb⟩, rfl⟩; obtain rfl : b = true := hb.2 ⟨_, HP.out⟩; clear hb) | (go_at_call 28; (with_reducible refine (toks_one_any _ HP.out.txt HP.out.ok hs HT.out).mono ?_); rintro e w' ⟨⟨g, cap, co, cc, rfl, c0, c1, c2, c3, c4, c5⟩, hb2⟩; have HB := Lib.hid hb2; have hbk : Blk w' w.heap.size 25 #[.int .i64 0, .int .i64 0, .int .i64 0, .int .i64 0, .bool false, .string ⟨#[]⟩] := (hb2.block _ (by simp)).trans (Blk.new w _ _); have z0 := hbk.cell 0; have z1 := hbk.cell 1; have z2 := hbk.cell 2; have z3 := hbk.cell 3; have z4 := hbk.cell 4; have z5 := hbk.cell 5; have f0 := hbk.frozen 0; have f1 := hbk.frozen 1; have f2 := hbk.frozen 2; have f3 := hbk.frozen 3; have f4 := hbk.frozen 4; have f5 := hbk.frozen 5; have HBK := Lib.hid hbk; clear hb2 hbk; simp only [List.getElem?_toArray, List.getElem?_cons_zero, List.getElem?_cons_succ] at z0 z1 z2 z3 z4 z5))
    apply bodyPost_ret (v := .tuple #[.agg (tokCells t).toArray, .bool true])
    · simp [results, Tryf.results16, go_sem, tokCells, z0, z1, z2, z3, z4, z5]
    · rfl
    exact ⟨rfl, ((((((((Below.refl _ w).alloc (Nat.le_refl _) _).trans (HB.out.mono (by simp))).setCell (Nat.le_refl _) _).setCell (Nat.le_refl _) _).setCell (Nat.le_refl _) _).setCell (Nat.le_refl _) _).setCell (Nat.le_refl _) _).setCell (Nat.le_refl _) _⟩
  · have e0 : onlyT r = none := by
      cases ho : onlyT r with
      | none => rfl
      | some t => exact absurd ⟨t, onlyT_some ho⟩ h1
    rw [e0]
    have H1 := Lib.hid h1
    clear h1 e0
    have hN : ∃ n, (Pl.toksF r).1.length = n := ⟨_, rfl⟩
    have hM : ∃ m, (Pl.toksF r).2.1 = m := ⟨_, rfl⟩
    have hO : ∃ o, (Pl.toksF r).2.2 = o := ⟨_, rfl⟩
    obtain ⟨n, hN⟩ := hN
    obtain ⟨m, hM⟩ := hM
    obtain ⟨o, hO⟩ := hO
    have hcase : n = 1 → m = 0 → o = true := by
      intro hn hm
      cases o with
      | true => rfl
      | false =>
        exfalso
        cases hl : (Pl.toksF r).1 with
        | nil => rw [hl, hn] at hN; cases hN
        | cons a b =>
          rw [hl, hn] at hN
          have : b = [] := List.eq_nil_of_length_eq_zero (by simp only [List.length_cons] at hN; omega)
          subst this
          exact H1.out ⟨a, Prod.ext hl (Prod.ext (hM.trans hm) hO)⟩
    have HN := Lib.hid hN
    have HM := Lib.hid hM
    have HO := Lib.hid hO
    clear hN hM hO
    by_cases hn1 : n = 1
    · by_cases hm0 : m = 0
      · have ho := hcase hn1 hm0
        subst hn1 hm0 ho
        clear hcase
        go_enter Tryf.func16, Tryf.ntmps16
        go_wp2_with (first | (go_at_call 20; (with_reducible refine hP.mono ?_); rintro e w' ⟨⟨b, rfl, hb⟩, rfl⟩; obtain rfl : b = true := hb.2 ⟨_, HP.out⟩; clear hb) | (go_at_call 28; (with_reducible refine (toks_else_as _ HP.out.txt HP.out.ok hs HN.out HM.out HO.out).mono ?_); rintro e w' ⟨⟨ao, cap, co, cc, rfl⟩, hb2⟩; have HB := Lib.hid hb2; have hbk : Blk w' w.heap.size 25 #[.int .i64 0, .int .i64 0, .int .i64 0, .int .i64 0, .bool false, .string ⟨#[]⟩] := (hb2.block _ (by simp)).trans (Blk.new w _ _); have z0 := hbk.cell 0; have z1 := hbk.cell 1; have z2 := hbk.cell 2; have z3 := hbk.cell 3; have z4 := hbk.cell 4; have z5 := hbk.cell 5; have f0 := hbk.frozen 0; have f1 := hbk.frozen 1; have f2 := hbk.frozen 2; have f3 := hbk.frozen 3; have f4 := hbk.frozen 4; have f5 := hbk.frozen 5; have HBK := Lib.hid hbk; clear hb2 hbk; simp only [List.getElem?_toArray, List.getElem?_cons_zero, List.getElem?_cons_succ] at z0 z1 z2 z3 z4 z5))
        apply bodyPost_ret (v := .tuple #[noTok, .bool false])
        · simp [results, Tryf.results16, go_sem, noTok, z0, z1, z2, z3, z4, z5]
        · rfl
        exact ⟨rfl, ((((((((Below.refl _ w).alloc (Nat.le_refl _) _).trans (HB.out.mono (by simp))).setCell (Nat.le_refl _) _).setCell (Nat.le_refl _) _).setCell (Nat.le_refl _) _).setCell (Nat.le_refl _) _).setCell (Nat.le_refl _) _).setCell (Nat.le_refl _) _⟩
      · subst hn1
        have tM : (0 : Nat) < m := by omega
        clear hcase hm0
        go_enter Tryf.func16, Tryf.ntmps16
        go_wp2_with (first | (go_at_call 20; (with_reducible refine hP.mono ?_); rintro e w' ⟨⟨b, rfl, hb⟩, rfl⟩; obtain rfl : b = true := hb.2 ⟨_, HP.out⟩; clear hb) | (go_at_call 28; (with_reducible refine (toks_else_as _ HP.out.txt HP.out.ok hs HN.out HM.out HO.out).mono ?_); rintro e w' ⟨⟨ao, cap, co, cc, rfl⟩, hb2⟩; have HB := Lib.hid hb2; have hbk : Blk w' w.heap.size 25 #[.int .i64 0, .int .i64 0, .int .i64 0, .int .i64 0, .bool false, .string ⟨#[]⟩] := (hb2.block _ (by simp)).trans (Blk.new w _ _); have z0 := hbk.cell 0; have z1 := hbk.cell 1; have z2 := hbk.cell 2; have z3 := hbk.cell 3; have z4 := hbk.cell 4; have z5 := hbk.cell 5; have f0 := hbk.frozen 0; have f1 := hbk.frozen 1; have f2 := hbk.frozen 2; have f3 := hbk.frozen 3; have f4 := hbk.frozen 4; have f5 := hbk.frozen 5; have HBK := Lib.hid hbk; clear hb2 hbk; simp only [List.getElem?_toArray, List.getElem?_cons_zero, List.getElem?_cons_succ] at z0 z1 z2 z3 z4 z5))
        apply bodyPost_ret (v := .tuple #[noTok, .bool false])
        · simp [results, Tryf.results16, go_sem, noTok, z0, z1, z2, z3, z4, z5]
        · rfl
        exact ⟨rfl, ((((((((Below.refl _ w).alloc (Nat.le_refl _) _).trans (HB.out.mono (by simp))).setCell (Nat.le_refl _) _).setCell (Nat.le_refl _) _).setCell (Nat.le_refl _) _).setCell (Nat.le_refl _) _).setCell (Nat.le_refl _) _).setCell (Nat.le_refl _) _⟩
    · have tL : ((n : Int) != 1) = true := by simp; omega
      clear hcase
      go_enter Tryf.func16, Tryf.ntmps16
      go_wp2_with (first | (go_at_call 20; (with_reducible refine hP.mono ?_); rintro e w' ⟨⟨b, rfl, hb⟩, rfl⟩; obtain rfl : b = true := hb.2 ⟨_, HP.out⟩; clear hb) | (go_at_call 28; (with_reducible refine (toks_else_as _ HP.out.txt HP.out.ok hs HN.out HM.out HO.out).mono ?_); rintro e w' ⟨⟨ao, cap, co, cc, rfl⟩, hb2⟩; have HB := Lib.hid hb2; have hbk : Blk w' w.heap.size 25 #[.int .i64 0, .int .i64 0, .int .i64 0, .int .i64 0, .bool false, .string ⟨#[]⟩] := (hb2.block _ (by simp)).trans (Blk.new w _ _); have z0 := hbk.cell 0; have z1 := hbk.cell 1; have z2 := hbk.cell 2; have z3 := hbk.cell 3; have z4 := hbk.cell 4; have z5 := hbk.cell 5; have f0 := hbk.frozen 0; have f1 := hbk.frozen 1; have f2 := hbk.frozen 2; have f3 := hbk.frozen 3; have f4 := hbk.frozen 4; have f5 := hbk.frozen 5; have HBK := Lib.hid hbk; clear hb2 hbk; simp only [List.getElem?_toArray, List.getElem?_cons_zero, List.getElem?_cons_succ] at z0 z1 z2 z3 z4 z5))
      apply bodyPost_ret (v := .tuple #[noTok, .bool false])
      · simp [results, Tryf.results16, go_sem, noTok, z0, z1, z2, z3, z4, z5]
      · rfl
      exact ⟨rfl, ((((((((Below.refl _ w).alloc (Nat.le_refl _) _).trans (HB.out.mono (by simp))).setCell (Nat.le_refl _) _).setCell (Nat.le_refl _) _).setCell (Nat.le_refl _) _).setCell (Nat.le_refl _) _).setCell (Nat.le_refl _) _).setCell (Nat.le_refl _) _⟩
end Go.Proofs.YtmomkkakjkkakaaFmt
