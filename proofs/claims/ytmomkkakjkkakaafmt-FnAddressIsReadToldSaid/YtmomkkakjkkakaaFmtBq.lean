/-
  WALK of bestQuoteCharForString: which quotes a text takes.
-/
import Derived.Test.YtmomkkakjkkakaaFmtPil
import Derived.Test.YtmomkkakjkkakaaFmtLawQ
import Derived.Lib.OthersKept
import Derived.Deep.LoopGhost
set_option linter.unusedVariables false
set_option linter.unusedSimpArgs false
set_option maxRecDepth 100000
namespace Go.Proofs.YtmomkkakjkkakaaFmt
open Go.RowKit

def sgN (r : List Nat) : Nat := 2 + Pl.cntN 39 r + Pl.costN r
def dbN (r : List Nat) : Nat := 2 + Pl.cntN 34 r + Pl.costN r
theorem urlN_le (r : List Nat) : Pl.urlN r ≤ r.length := List.countP_le_length
theorem sgN_le (r : List Nat) : sgN r ≤ 2 + 2 * r.length := by
  have h1 : Pl.cntN 39 r ≤ r.length := List.countP_le_length
  have h2 : Pl.costN r ≤ r.length := List.countP_le_length
  unfold sgN; omega
theorem dbN_le (r : List Nat) : dbN r ≤ 2 + 2 * r.length := by
  have h1 : Pl.cntN 34 r ≤ r.length := List.countP_le_length
  have h2 : Pl.costN r ≤ r.length := List.countP_le_length
  unfold dbN; omega
/-- what one sign more costs -/
structure Cost (a : List Nat) (c u s d : Nat) : Prop where
  url : Pl.urlN (a ++ [c]) = Pl.urlN a + u
  sg : sgN (a ++ [c]) = sgN a + s
  db : dbN (a ++ [c]) = dbN a + d
theorem cost_of (a : List Nat) (c : Nat) : Cost a c (if c = 39 ∨ c = 34 ∨ c = 40 ∨ c = 41 ∨ c = 32 ∨ c = 9 ∨ c = 92 ∨ c = 10 ∨ c = 13 ∨ c = 12 then 1 else 0)
    ((if c = 39 then 1 else 0) + (if c = 92 ∨ c = 10 ∨ c = 13 ∨ c = 12 then 1 else 0)) ((if c = 34 then 1 else 0) + (if c = 92 ∨ c = 10 ∨ c = 13 ∨ c = 12 then 1 else 0)) := by
  refine ⟨?_, ?_, ?_⟩
  · simp [Pl.urlN, List.countP_append, List.countP_singleton]
  · simp [sgN, Pl.cntN, Pl.costN, List.countP_append, List.countP_singleton]; omega
  · simp [dbN, Pl.cntN, Pl.costN, List.countP_append, List.countP_singleton]; omega
theorem bq_ways (a : List Nat) (c : Nat) : ((((c : Int) == 39) = true) ∧ Cost a c 1 1 0) ∨ ((((c : Int) == 39) = false) ∧ (((((c : Int) == 34) = true) ∧ Cost a c 1 0 1) ∨ ((((c : Int) == 34) = false) ∧ (((((c : Int) == 40) = true) ∧ Cost a c 1 0 0) ∨ ((((c : Int) == 40) = false) ∧ (((((c : Int) == 41) = true) ∧ Cost a c 1 0 0) ∨ ((((c : Int) == 41) = false) ∧ (((((c : Int) == 32) = true) ∧ Cost a c 1 0 0) ∨ ((((c : Int) == 32) = false) ∧ (((((c : Int) == 9) = true) ∧ Cost a c 1 0 0) ∨ ((((c : Int) == 9) = false) ∧ (((((c : Int) == 92) = true) ∧ Cost a c 1 1 1) ∨ ((((c : Int) == 92) = false) ∧ (((((c : Int) == 10) = true) ∧ Cost a c 1 1 1) ∨ ((((c : Int) == 10) = false) ∧ (((((c : Int) == 13) = true) ∧ Cost a c 1 1 1) ∨ ((((c : Int) == 13) = false) ∧ (((((c : Int) == 12) = true) ∧ Cost a c 1 1 1) ∨ ((((c : Int) == 12) = false) ∧ (Cost a c 0 0 0)))))))))))))))))))) := by
  have h := cost_of a c
  by_cases h39 : c = 39
  · subst h39; exact .inl ⟨rfl, by simpa using h⟩
  refine .inr ⟨by simp; omega, ?_⟩
  by_cases h34 : c = 34
  · subst h34; exact .inl ⟨rfl, by simpa using h⟩
  refine .inr ⟨by simp; omega, ?_⟩
  by_cases h40 : c = 40
  · subst h40; exact .inl ⟨rfl, by simpa using h⟩
  refine .inr ⟨by simp; omega, ?_⟩
  by_cases h41 : c = 41
  · subst h41; exact .inl ⟨rfl, by simpa using h⟩
  refine .inr ⟨by simp; omega, ?_⟩
  by_cases h32 : c = 32
  · subst h32; exact .inl ⟨rfl, by simpa using h⟩
  refine .inr ⟨by simp; omega, ?_⟩
  by_cases h9 : c = 9
  · subst h9; exact .inl ⟨rfl, by simpa using h⟩
  refine .inr ⟨by simp; omega, ?_⟩
  by_cases h92 : c = 92
  · subst h92; exact .inl ⟨rfl, by simpa using h⟩
  refine .inr ⟨by simp; omega, ?_⟩
  by_cases h10 : c = 10
  · subst h10; exact .inl ⟨rfl, by simpa using h⟩
  refine .inr ⟨by simp; omega, ?_⟩
  by_cases h13 : c = 13
  · subst h13; exact .inl ⟨rfl, by simpa using h⟩
  refine .inr ⟨by simp; omega, ?_⟩
  by_cases h12 : c = 12
  · subst h12; exact .inl ⟨rfl, by simpa using h⟩
  refine .inr ⟨by simp; omega, ?_⟩
  simpa [h39, h34, h40, h41, h32, h9, h92, h10, h13, h12] using h
theorem ret_u8 {a b : Nat} (h : b = a) : Ending.returned (Value.int .u8 (a : Int)) = .returned (.int .u8 (b : Int)) := by rw [h]
set_option maxHeartbeats 4000000 in
theorem best_any {w : World} {x : ByteArray} {r : List Nat} (url : Bool) (hx : Str x r) (hok : ∀ c ∈ r, Pl.Ok c) (hs : x.size ≤ 1099511627776) :
    Calls Tryf.prog 54 #[.string x, .bool url] w fun e w' => e = .returned (.int .u8 (Pl.bestF url r)) ∧ Below w.heap.size w w' := by
  have HX := Lib.hid hx
  have HOK := Lib.hid hok
  have hrl : r.length ≤ 1099511627776 := by have := encs_len_ge r; have := hx.size; omega
  clear hx hok
  go_enter Tryf.func54, Tryf.ntmps54
  have HI0 := Lib.hid (show (w.iter x 0).heap[w.heap.size]? = some (.stringIter x 0) from World.iter_heap w x 0)
  have HB0 := Lib.hid (show Below w.heap.size w (w.iter x 0) from (Below.refl _ w).alloc (Nat.le_refl _) (.stringIter x 0))
  go_wp2_with fail
  go_loopg [5, 6, 7] r.length (fun k uv sv dv wr => ∃ a t : List Nat, k = t.length ∧ uv = .int .i64 (Pl.urlN a) ∧ sv = .int .i64 (sgN a) ∧ dv = .int .i64 (dbN a) ∧ Hid (r = a ++ t) ∧ Hid (wr.heap[w.heap.size]? = some (.stringIter x (Pl.encs a).length)) ∧ Hid (Below w.heap.size w wr))
  case atStart => exact ⟨[], r, rfl, rfl, rfl, rfl, Lib.hid rfl, HI0, HB0⟩
  case round =>
    clear HI0 HB0
    obtain ⟨a, t, rfl, rfl, rfl, rfl, HR, HI, HB⟩ := hrel
    have hu := urlN_le a
    have hg := sgN_le a
    have hd := dbN_le a
    have hal : a.length ≤ 1099511627776 := by have := congrArg List.length HR.out; rw [List.length_append] at this; omega
    cases t with
    | nil =>
      have hra : r = a := by rw [HR.out, List.append_nil]
      have hend : ¬ (Pl.encs a).length < x.size := by rw [HX.out.size, hra]; omega
      have hn := fun ty => Lib.run_next_end_at (P := Tryf.prog) wr w.heap.size x (Pl.encs a).length ty HI.out hend
      have HF := Lib.hid (show Pl.bestF url r = if url = true ∧ Pl.urlN a < sgN a ∧ Pl.urlN a < dbN a then 0 else if sgN a < dbN a then 39 else 34 by
        rw [hra]
        unfold Pl.bestF sgN dbN
        congr 1
        by_cases h : Pl.cntN 39 a < Pl.cntN 34 a
        · rw [if_pos h, if_pos (by omega)]
        · rw [if_neg h, if_neg (by omega)])
      clear hra
      generalize Pl.urlN a = U at *
      generalize sgN a = G at *
      generalize dbN a = D at *
      by_cases hsd : G < D
      · cases url with
        | false =>
          go_wp2_with fail
          go_ret
          exact ⟨ret_u8 (by rw [HF.out]; simp [hsd]), HB.out⟩
        | true =>
          by_cases h1 : U < G
          · by_cases h2 : U < D
            · go_wp2_with fail
              go_ret
              exact ⟨ret_u8 (by rw [HF.out]; simp [h1, h2]), HB.out⟩
            · omega
          · go_wp2_with fail
            go_ret
            exact ⟨ret_u8 (by rw [HF.out]; simp [h1, hsd]), HB.out⟩
      · cases url with
        | false =>
          go_wp2_with fail
          go_ret
          exact ⟨ret_u8 (by rw [HF.out]; simp [hsd]), HB.out⟩
        | true =>
          by_cases h1 : U < G
          · by_cases h2 : U < D
            · go_wp2_with fail
              go_ret
              exact ⟨ret_u8 (by rw [HF.out]; simp [h1, h2]), HB.out⟩
            · go_wp2_with fail
              go_ret
              exact ⟨ret_u8 (by rw [HF.out]; simp [h2, hsd]), HB.out⟩
          · go_wp2_with fail
            go_ret
            exact ⟨ret_u8 (by rw [HF.out]; simp [h1, hsd]), HB.out⟩
    | cons c t =>
      have hxr := HX.out
      rw [HR.out] at hxr
      have hco : Pl.Ok c := HOK.out c (by rw [HR.out]; simp)
      have hsz := hxr.size
      rw [Pl.encs_append, Pl.encs_cons, List.length_append, List.length_append] at hsz
      have hp := enc_len_pos c
      have hlt : (Pl.encs a).length < x.size := by omega
      have hdec : Utf8.decode x (Pl.encs a).length = (c, (Pl.enc c).length) := dec_at hco.1 (T := Pl.encs t) (by rw [hxr.txt, Pl.encs_append, List.drop_left, Pl.encs_cons])
      have hn := fun ty => Lib.run_next_any_at (P := Tryf.prog) wr w.heap.size x (Pl.encs a).length ty HI.out hlt
      rw [hdec] at hn
      have HI3 := Lib.hid (Lib.iterAt_heap wr w.heap.size x (Pl.encs a).length ((Pl.encs a).length + (Pl.enc c).length) HI.out)
      have HB3 := Lib.hid (Lib.below_iterAt HB.out (Nat.le_refl _) x ((Pl.encs a).length + (Pl.enc c).length))
      have HN := Lib.hid (show (Pl.encs a).length + (Pl.enc c).length = (Pl.encs (a ++ [c])).length by rw [Pl.encs_append, List.length_append, Pl.encs_cons, Pl.encs_nil, List.append_nil])
      have HR3 := Lib.hid (show r = (a ++ [c]) ++ t by rw [HR.out]; simp)
      clear hxr hco hsz hp hlt hdec HR HI HB
      go_upto_region 6 with fail
      clear hn
      generalize wr.iterAt w.heap.size x ((Pl.encs a).length + (Pl.enc c).length) = w2 at HI3 HB3 ⊢
      rw [HN.out] at HI3
      rcases bq_ways a c with h | ⟨n0, h | ⟨n1, h | ⟨n2, h | ⟨n3, h | ⟨n4, h | ⟨n5, h | ⟨n6, h | ⟨n7, h | ⟨n8, h | ⟨n9, h⟩⟩⟩⟩⟩⟩⟩⟩⟩⟩
      · obtain ⟨p, hc⟩ := h
        have HC := Lib.hid hc
        clear hc
        go_wp2_with fail
        go_roundg t.length
        case measure => simp
        case rel => exact ⟨a ++ [c], t, rfl, by rw [HC.out.url]; simp, by rw [HC.out.sg]; simp, by rw [HC.out.db]; simp, HR3, HI3, HB3⟩
      · obtain ⟨p, hc⟩ := h
        have HC := Lib.hid hc
        clear hc
        go_wp2_with fail
        go_roundg t.length
        case measure => simp
        case rel => exact ⟨a ++ [c], t, rfl, by rw [HC.out.url]; simp, by rw [HC.out.sg]; simp, by rw [HC.out.db]; simp, HR3, HI3, HB3⟩
      · obtain ⟨p, hc⟩ := h
        have HC := Lib.hid hc
        clear hc
        go_wp2_with fail
        go_roundg t.length
        case measure => simp
        case rel => exact ⟨a ++ [c], t, rfl, by rw [HC.out.url]; simp, by rw [HC.out.sg]; simp, by rw [HC.out.db]; simp, HR3, HI3, HB3⟩
      · obtain ⟨p, hc⟩ := h
        have HC := Lib.hid hc
        clear hc
        go_wp2_with fail
        go_roundg t.length
        case measure => simp
        case rel => exact ⟨a ++ [c], t, rfl, by rw [HC.out.url]; simp, by rw [HC.out.sg]; simp, by rw [HC.out.db]; simp, HR3, HI3, HB3⟩
      · obtain ⟨p, hc⟩ := h
        have HC := Lib.hid hc
        clear hc
        go_wp2_with fail
        go_roundg t.length
        case measure => simp
        case rel => exact ⟨a ++ [c], t, rfl, by rw [HC.out.url]; simp, by rw [HC.out.sg]; simp, by rw [HC.out.db]; simp, HR3, HI3, HB3⟩
      · obtain ⟨p, hc⟩ := h
        have HC := Lib.hid hc
        clear hc
        go_wp2_with fail
        go_roundg t.length
        case measure => simp
        case rel => exact ⟨a ++ [c], t, rfl, by rw [HC.out.url]; simp, by rw [HC.out.sg]; simp, by rw [HC.out.db]; simp, HR3, HI3, HB3⟩
      · obtain ⟨p, hc⟩ := h
        have HC := Lib.hid hc
        clear hc
        go_wp2_with fail
        go_roundg t.length
        case measure => simp
        case rel => exact ⟨a ++ [c], t, rfl, by rw [HC.out.url]; simp, by rw [HC.out.sg]; simp, by rw [HC.out.db]; simp, HR3, HI3, HB3⟩
      · obtain ⟨p, hc⟩ := h
        have HC := Lib.hid hc
        clear hc
        go_wp2_with fail
        go_roundg t.length
        case measure => simp
        case rel => exact ⟨a ++ [c], t, rfl, by rw [HC.out.url]; simp, by rw [HC.out.sg]; simp, by rw [HC.out.db]; simp, HR3, HI3, HB3⟩
      · obtain ⟨p, hc⟩ := h
        have HC := Lib.hid hc
        clear hc
        go_wp2_with fail
        go_roundg t.length
        case measure => simp
        case rel => exact ⟨a ++ [c], t, rfl, by rw [HC.out.url]; simp, by rw [HC.out.sg]; simp, by rw [HC.out.db]; simp, HR3, HI3, HB3⟩
      · obtain ⟨p, hc⟩ := h
        have HC := Lib.hid hc
        clear hc
        go_wp2_with fail
        go_roundg t.length
        case measure => simp
        case rel => exact ⟨a ++ [c], t, rfl, by rw [HC.out.url]; simp, by rw [HC.out.sg]; simp, by rw [HC.out.db]; simp, HR3, HI3, HB3⟩
      · have hc := h
        have HC := Lib.hid hc
        clear h hc
        go_wp2_with fail
        go_roundg t.length
        case measure => simp
        case rel => exact ⟨a ++ [c], t, rfl, by rw [HC.out.url]; simp, by rw [HC.out.sg]; simp, by rw [HC.out.db]; simp, HR3, HI3, HB3⟩
end Go.Proofs.YtmomkkakjkkakaaFmt
