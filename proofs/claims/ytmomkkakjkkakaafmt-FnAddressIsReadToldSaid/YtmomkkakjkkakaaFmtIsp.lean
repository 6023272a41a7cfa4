/-
  WALK of IsPlain: true just of the texts that are the bytes of code points, none of them 0, the first no byte order mark.
-/
import Derived.Test.YtmomkkakjkkakaaFmtRune
import Derived.Deep.LoopGhost
set_option linter.unusedVariables false
set_option linter.unusedSimpArgs false
set_option maxRecDepth 100000
namespace Go.Proofs.YtmomkkakjkkakaaFmt
open Go.RowKit

/-- a text is the bytes of code points -/
structure PlainR (s : ByteArray) (r : List Nat) : Prop where
  txt : s.data.toList = Pl.encs r
  ok : ∀ c ∈ r, Pl.Ok c
  bom : r.head? ≠ some 65279

structure PInv (s : ByteArray) (j : Nat) : Prop where
  here : ∃ d, s.data.toList = Pl.encs d ++ s.data.toList.drop j ∧ (∀ c ∈ d, Pl.Ok c) ∧ d.head? ≠ some 65279 ∧ (j = 0 → d = [])
  all : ∀ r, PlainR s r → ∃ r', s.data.toList.drop j = Pl.encs r' ∧ (∀ c ∈ r', Pl.Ok c) ∧ (j = 0 → r' = r)

theorem PInv.start (s : ByteArray) : PInv s 0 := ⟨⟨[], by simp [Pl.encs], by simp, by simp, fun _ => rfl⟩, fun r h => ⟨r, by simpa using h.txt, h.ok, fun _ => rfl⟩⟩
theorem PInv.done {s : ByteArray} {j : Nat} (h : PInv s j) (hj : s.size ≤ j) : ∃ r, PlainR s r := by
  obtain ⟨d, h1, h2, h3, _⟩ := h.here
  have : s.data.toList.length ≤ j := by rw [Array.length_toList]; exact hj
  rw [List.drop_eq_nil_of_le this, List.append_nil] at h1
  exact ⟨d, h1, h2, h3⟩
/-- at a code point -/
theorem PInv.at {s : ByteArray} {j : Nat} (h : PInv s j) (hj : j < s.size) {r : List Nat} (hr : PlainR s r) :
    ∃ c r', Pl.Ok c ∧ runeV s j = ((c : Int), ((Pl.enc c).length : Int)) ∧ (j = 0 → r = c :: r') ∧ s.data.toList.drop (j + (Pl.enc c).length) = Pl.encs r' ∧ (∀ c ∈ r', Pl.Ok c) := by
  obtain ⟨r', h1, h2, h3⟩ := h.all r hr
  cases r' with
  | nil =>
    have : j < s.data.toList.length := by rw [Array.length_toList]; exact hj
    have e := congrArg List.length h1
    simp only [List.length_drop, Pl.encs, List.flatMap_nil, List.length_nil] at e
    omega
  | cons c t =>
    rw [Pl.encs_cons] at h1
    refine ⟨c, t, h2 c (List.mem_cons_self ..), runeV_cp (h2 c (List.mem_cons_self ..)).1 h1, fun e => (h3 e).symm, ?_, fun x hx => h2 x (List.mem_cons_of_mem _ hx)⟩
    rw [← List.drop_drop, h1, List.drop_left]
theorem PInv.bad {s : ByteArray} {j : Nat} (h : PInv s j) (hj : j < s.size) (hb : (runeV s j).1 = -2 ∨ (runeV s j).1 = 0 ∨ (j = 0 ∧ (runeV s j).1 = 65279)) : ¬ ∃ r, PlainR s r := by
  rintro ⟨r, hr⟩
  obtain ⟨c, r', hc, hv, h0, _⟩ := h.at hj hr
  rw [hv] at hb
  have h2 : c ≠ 0 := hc.2
  simp only at hb
  rcases hb with hb | hb | ⟨h1, hb⟩
  · omega
  · omega
  · have e := h0 h1
    have hc2 : c = 65279 := by omega
    exact hr.bom (by rw [e, hc2]; rfl)
theorem PInv.next {s : ByteArray} {j : Nat} (h : PInv s j) (hj : j < s.size) (h1 : (runeV s j).1 ≠ -2) (h2 : (runeV s j).1 ≠ 0) (h3 : ¬ (j = 0 ∧ (runeV s j).1 = 65279)) :
    ∃ n : Nat, (runeV s j).2 = n ∧ 0 < n ∧ j + n ≤ s.size ∧ PInv s (j + n) := by
  obtain ⟨c, hc, hv, hd⟩ := runeV_sound hj h1
  have hn := enc_len_pos c
  rw [hv] at h2 h3
  simp only at h2 h3
  refine ⟨(Pl.enc c).length, by rw [hv], hn, ?_, ?_, ?_⟩
  · have e := congrArg List.length hd
    have : s.data.toList.length = s.size := by rw [Array.length_toList]; rfl
    simp only [List.length_drop, List.length_append] at e
    omega
  · obtain ⟨d, e1, e2, e3, e4⟩ := h.here
    refine ⟨d ++ [c], ?_, ?_, ?_, fun e => by omega⟩
    · rw [Pl.encs_append, List.append_assoc, show Pl.encs [c] = Pl.enc c by simp [Pl.encs], ← hd]
      exact e1
    · intro x hx
      rcases List.mem_append.mp hx with hx | hx
      · exact e2 x hx
      · rw [List.mem_singleton] at hx; subst hx; exact ⟨hc, by omega⟩
    · cases d with
      | nil =>
        have hj0 : j = 0 := by
          have e := congrArg List.length e1
          have : s.data.toList.length = s.size := by rw [Array.length_toList]; rfl
          simp only [Pl.encs, List.flatMap_nil, List.nil_append, List.length_drop] at e
          omega
        intro e
        simp only [List.nil_append, List.head?_cons, Option.some.injEq] at e
        exact h3 ⟨hj0, by omega⟩
      | cons a t => simpa using e3
  · intro r hr
    obtain ⟨c', r', _, hv', _, hd', ho'⟩ := h.at hj hr
    rw [hv] at hv'
    have hcc : c = c' := by have := congrArg Prod.fst hv'; simp only at this; omega
    subst hcc
    exact ⟨r', hd', ho', fun e => by omega⟩

theorem IsPlain_any (s : ByteArray) (w : World) (hs : s.size ≤ 1099511627776) :
    Calls Tryf.prog 20 #[.string s] w fun e w' => (∃ b : Bool, e = .returned (.bool b) ∧ (b = true ↔ ∃ r, PlainR s r)) ∧ w = w' := by
  go_enter Tryf.func20, Tryf.ntmps20
  go_wp2_with fail
  go_loopg [3] s.size (fun k av wr => ∃ (j : Nat), k = s.size - j ∧ j ≤ s.size ∧ av = .int .i64 j ∧ wr = w ∧ Hid (PInv s j))
  case atStart => exact ⟨0, rfl, Nat.zero_le _, rfl, rfl, Lib.hid (PInv.start s)⟩
  case round =>
    obtain ⟨j, rfl, hj, rfl, rfl, HI⟩ := hrel
    by_cases hlt : j < s.size
    · obtain ⟨c, n, hv⟩ : ∃ c n, runeV s j = (c, n) := ⟨_, _, rfl⟩
      have hA := runeAt_any s j wr hs (by omega)
      rw [hv] at hA
      have HV := Lib.hid hv
      clear hv
      have hl : decide ((j : Int) < s.size) = true := by simp; omega
      by_cases h1 : c = -2
      · subst h1
        go_wp2_with (go_at_call 35; refine hA.mono ?_; rintro e w' ⟨rfl, rfl⟩)
        go_ret
        exact ⟨⟨false, rfl, by simpa using HI.out.bad hlt (by rw [HV.out]; simp)⟩, rfl⟩
      have b1 : (c == -2) = false := by simpa using h1
      by_cases h2 : c = 0
      · subst h2
        go_wp2_with (go_at_call 35; refine hA.mono ?_; rintro e w' ⟨rfl, rfl⟩)
        go_ret
        exact ⟨⟨false, rfl, by simpa using HI.out.bad hlt (by rw [HV.out]; simp)⟩, rfl⟩
      have b2 : (c == 0) = false := by simpa using h2
      by_cases h3 : j = 0 ∧ c = 65279
      · obtain ⟨rfl, rfl⟩ := h3
        go_wp2_with (go_at_call 35; refine hA.mono ?_; rintro e w' ⟨rfl, rfl⟩)
        go_ret
        exact ⟨⟨false, rfl, by simpa using HI.out.bad hlt (by rw [HV.out]; simp)⟩, rfl⟩
      have HN := Lib.hid (HI.out.next hlt (by rw [HV.out]; exact h1) (by rw [HV.out]; exact h2) (by rw [HV.out]; exact h3))
      obtain ⟨m, e1, e2, e3, e4⟩ := HN.out
      rw [HV.out] at e1
      simp only at e1
      subst e1
      have E4 := Lib.hid e4
      clear e4 HN
      by_cases h0 : j = 0
      · subst h0
        have b3 : (c == 65279) = false := by simpa using h3
        clear h1 h2 h3
        go_wp2_with (go_at_call 35; refine hA.mono ?_; rintro e w' ⟨rfl, rfl⟩)
        go_roundg (s.size - (0 + m))
        case measure => omega
        case rel => exact ⟨0 + m, rfl, by omega, by simp, rfl, Lib.hid (by simpa using E4.out)⟩
      · have b3 : ((j : Int) == 0) = false := by simpa using h0
        clear h1 h2 h3
        go_wp2_with (go_at_call 35; refine hA.mono ?_; rintro e w' ⟨rfl, rfl⟩)
        go_roundg (s.size - (j + m))
        case measure => omega
        case rel => exact ⟨j + m, rfl, by omega, by simp, rfl, Lib.hid (by simpa using E4.out)⟩
    · have hl : decide ((j : Int) < s.size) = false := by simp; omega
      go_wp2_with fail
      go_ret
      exact ⟨⟨true, rfl, by simpa using HI.out.done (by omega)⟩, rfl⟩
end Go.Proofs.YtmomkkakjkkakaaFmt
