/-
  WALK of FnDecoded: true at every text: the cases joined.
-/
import Derived.Test.YtmomkkakjkkakaaDoorFnD
set_option linter.unusedVariables false
set_option linter.unusedSimpArgs false
set_option maxRecDepth 100000
namespace Go.Proofs.YtmomkkakjkkakaaDoor
open Go.RowKit

theorem encs_inj : ∀ (a b : List Nat), (∀ c ∈ a, Pl.Ok c) → (∀ c ∈ b, Pl.Ok c) → Pl.encs a = Pl.encs b → a = b
  | [], [], _, _, _ => rfl
  | [], c :: t, _, _, h => by
    have e := congrArg List.length h
    rw [Pl.encs_nil, Pl.encs_cons, List.length_append, List.length_nil] at e
    have := enc_len_pos c
    omega
  | c :: t, [], _, _, h => by
    have e := congrArg List.length h
    rw [Pl.encs_nil, Pl.encs_cons, List.length_append, List.length_nil] at e
    have := enc_len_pos c
    omega
  | c :: t, d :: u, h1, h2, h => by
    have a1 : runeV (S (Pl.encs (c :: t))) 0 = ((c : Int), ((Pl.enc c).length : Int)) := runeV_cp (T := Pl.encs t) (h1 c (by simp)).1 (by rw [List.drop_zero, S_data, Pl.encs_cons])
    have a2 : runeV (S (Pl.encs (d :: u))) 0 = ((d : Int), ((Pl.enc d).length : Int)) := runeV_cp (T := Pl.encs u) (h2 d (by simp)).1 (by rw [List.drop_zero, S_data, Pl.encs_cons])
    rw [h, a2] at a1
    have hcd : c = d := by have := congrArg Prod.fst a1; simp only at this; omega
    subst hcd
    rw [Pl.encs_cons, Pl.encs_cons] at h
    rw [encs_inj t u (fun x hx => h1 x (by simp [hx])) (fun x hx => h2 x (by simp [hx])) (List.append_cancel_left h)]

theorem fnDecoded_walk (s : ByteArray) (w : World) (hs : s.size ≤ 9223372036854775807) (hT : Tabs w) :
    Calls Tryd.prog 3 #[.string s] w fun e w' => e = .returned (.bool true) ∧ Below w.heap.size w w' := by
  by_cases h1 : 2147483647 < s.size
  · go_enter Tryd.func3, Tryd.ntmps3
    go_wp2_with fail
    go_ret
    exact ⟨rfl, Below.refl _ _⟩
  have hs2 : s.size ≤ 2147483647 := by omega
  have hq : (⟨#[34]⟩ ++ s ++ ⟨#[34]⟩ : ByteArray).size = s.size + 2 := by rw [ByteArray.size_append, ByteArray.size_append]; show 1 + s.size + 1 = _; omega
  obtain ⟨o1, c1, p1⟩ := only_any (⟨#[34]⟩ ++ s ++ ⟨#[34]⟩) (by omega)
  obtain ⟨o2, c2, p2⟩ := only_any s (by omega)
  -- what the first gives
  have A : (∃ k1 t1 b1, ((b1 = false ∧ k1 = 0 ∧ t1 = []) ∨ (b1 = true ∧ (k1 == 36) = false)) ∧ ∀ w, Calls Tryd.prog 5 #[.string (⟨#[34]⟩ ++ s ++ ⟨#[34]⟩)] w fun e w' => OnlyIs k1 t1 b1 w e w') ∨
      ∃ ri, Str s ri ∧ (∀ c ∈ ri, Pl.Ok c) ∧ ∀ w, Calls Tryd.prog 5 #[.string (⟨#[34]⟩ ++ s ++ ⟨#[34]⟩)] w fun e w' => OnlyIs 36 (Pl.encs (Pl.decF ri)) true w e w' := by
    cases o1 with
    | none => exact .inl ⟨0, [], false, .inl ⟨rfl, rfl, rfl⟩, fun w => (c1 w).mono fun e w' h => h.none_is⟩
    | some t =>
      by_cases hk : t.kind = 36
      · obtain ⟨r, hr, ht⟩ := p1 t rfl
        obtain ⟨ri, rfl, rfl, hok⟩ := plain_q hr
        refine .inr ⟨ri, Str.of ri, hok, fun w => (c1 w).mono fun e w' h => ?_⟩
        have := h.some_is
        rw [hk, Pl.single_string ht hk] at this
        exact this
      · exact .inl ⟨t.kind, t.text, true, .inr ⟨rfl, by simp; omega⟩, fun w => (c1 w).mono fun e w' h => h.some_is⟩
  have B : (∃ k2 t2 b2, ((b2 = false ∧ k2 = 0 ∧ t2 = []) ∨ (b2 = true ∧ (k2 != 29) = true)) ∧ ∀ w, Calls Tryd.prog 5 #[.string s] w fun e w' => OnlyIs k2 t2 b2 w e w') ∨
      ∃ ri, Str s ri ∧ (∀ c ∈ ri, Pl.Ok c) ∧ ∀ w, Calls Tryd.prog 5 #[.string s] w fun e w' => OnlyIs 29 (Pl.encs (Pl.decF ri)) true w e w' := by
    cases o2 with
    | none => exact .inl ⟨0, [], false, .inl ⟨rfl, rfl, rfl⟩, fun w => (c2 w).mono fun e w' h => h.none_is⟩
    | some t =>
      by_cases hk : t.kind = 29
      · obtain ⟨r, hr, ht⟩ := p2 t rfl
        refine .inr ⟨r, ⟨hr.txt⟩, hr.ok, fun w => (c2 w).mono fun e w' h => ?_⟩
        have := h.some_is
        rw [hk, Pl.single_ident ht hk] at this
        exact this
      · exact .inl ⟨t.kind, t.text, true, .inr ⟨rfl, by simp; omega⟩, fun w => (c2 w).mono fun e w' h => h.some_is⟩
  rcases A with ⟨k1, t1, b1, ⟨rfl, rfl, rfl⟩ | ⟨rfl, hk1⟩, A⟩ | ⟨ri, hri, hok, A⟩ <;> rcases B with ⟨k2, t2, b2, ⟨rfl, rfl, rfl⟩ | ⟨rfl, hk2⟩, B⟩ | ⟨rj, hrj, hokj, B⟩
  · exact fnD_00 hs2 hT A B
  · exact fnD_01 hk2 hs2 hT A B
  · exact fnD_02 hrj hokj hs2 hT A B
  · exact fnD_10 hk1 hs2 hT A B
  · exact fnD_11 hk1 hk2 hs2 hT A B
  · exact fnD_12 hk1 hrj hokj hs2 hT A B
  · exact fnD_20 hri hok hs2 hT A B
  · exact fnD_21 hk2 hri hok hs2 hT A B
  · obtain rfl : rj = ri := encs_inj _ _ hokj hok (by rw [← hrj.txt, hri.txt])
    exact fnD_22 hri hok hs2 hT A B
end Go.Proofs.YtmomkkakjkkakaaDoor
