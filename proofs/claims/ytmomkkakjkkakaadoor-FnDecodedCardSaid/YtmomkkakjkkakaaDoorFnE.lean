/-
  WALK of FnEscapedIsDecoded: true at every text and every slice of numbers.
-/
import Derived.Test.YtmomkkakjkkakaaDoorEscd
import Derived.Test.YtmomkkakjkkakaaDoorIsp
import Derived.Test.YtmomkkakjkkakaaDoorDw
set_option linter.unusedVariables false
set_option linter.unusedSimpArgs false
set_option maxRecDepth 100000
namespace Go.Proofs.YtmomkkakjkkakaaDoor
open Go.RowKit

theorem plain_x {s : ByteArray} {r : List Nat} (h : PlainR (⟨#[120]⟩ ++ s) r) : ∃ t, s = S (Pl.encs t) ∧ ∀ c ∈ t, Pl.Ok c := by
  have e : (⟨#[120]⟩ ++ s : ByteArray).data.toList = 120 :: s.data.toList := by simp [ByteArray.data_append]
  have h1 := h.txt
  rw [e] at h1
  cases r with
  | nil => simp [Pl.encs] at h1
  | cons c t =>
    have hc := h.ok c (by simp)
    have a1 : runeV (⟨#[120]⟩ ++ s) 0 = ((c : Int), ((Pl.enc c).length : Int)) := runeV_cp (T := Pl.encs t) hc.1 (by rw [List.drop_zero, h.txt, Pl.encs_cons])
    have a2 : runeV (⟨#[120]⟩ ++ s) 0 = (((120 : Nat) : Int), ((Pl.enc 120).length : Int)) := runeV_cp (c := 120) (T := s.data.toList) (.inl (by omega)) (by rw [List.drop_zero, e, enc1 (by omega)]; rfl)
    rw [a1] at a2
    have hcc : c = 120 := by have := congrArg Prod.fst a2; simp only at this; omega
    subst hcc
    rw [Pl.encs_cons, show Pl.enc 120 = [120] from enc1 (by omega)] at h1
    have h2 : s.data.toList = Pl.encs t := by simpa using h1
    exact ⟨t, by rw [← h2, S_of], fun x hx => h.ok x (by simp [hx])⟩

theorem zzDec_any (r : List Nat) (w : World) (hok : ∀ c ∈ r, Pl.Ok c) (hs : (Pl.encs r).length ≤ 1099511627776) (hT : Tabs w) :
    Calls Tryd.prog 10 #[.string (S (Pl.encs r))] w fun e w' => e = .returned (.string (S (Pl.encs (Pl.decF r)))) ∧ Below w.heap.size w w' := by
  go_enter Tryd.func10, Tryd.ntmps10
  go_wp2_with (go_at_call 14; refine (decEsc_any r w hok hs hT).mono ?_; rintro e w' ⟨rfl, hb⟩)
  go_ret
  exact ⟨rfl, hb⟩
theorem dec_any (r : List Nat) (w : World) (hok : ∀ c ∈ r, Pl.Ok c) (hs : (Pl.encs r).length ≤ 1099511627776) (hT : Tabs w) :
    Calls Tryd.prog 6 #[.string (S (Pl.encs r))] w fun e w' => e = .returned (.string (S (Pl.encs (Pl.decF r)))) ∧ Below w.heap.size w w' := by
  go_enter Tryd.func6, Tryd.ntmps6
  go_wp2_with (go_at_call 10; refine (zzDec_any r w hok hs hT).mono ?_; rintro e w' ⟨rfl, hb⟩)
  go_ret
  exact ⟨rfl, hb⟩
set_option maxHeartbeats 4000000 in
theorem fnEsc_walk (s : ByteArray) (base : Option Addr) (n cap : Nat) (w : World) (hn : n ≤ 9223372036854775807) (hs : s.size ≤ 9223372036854775807) (hd : Nums w base n) (hT : Tabs w) :
    Calls Tryd.prog 4 #[.string s, .slice base n cap] w fun e w' => e = .returned (.bool true) ∧ Below w.heap.size w w' := by
  by_cases h1 : 2147483647 < s.size
  · go_enter Tryd.func4, Tryd.ntmps4
    go_wp2_with fail
    go_ret
    exact ⟨rfl, Below.refl _ _⟩
  by_cases h2 : 2147483647 < n
  · go_enter Tryd.func4, Tryd.ntmps4
    go_wp2_with fail
    go_ret
    exact ⟨rfl, Below.refl _ _⟩
  have hxs : (⟨#[120]⟩ ++ s : ByteArray).size = 1 + s.size := by rw [ByteArray.size_append]; rfl
  have hP := IsPlain_any (⟨#[120]⟩ ++ s) w (by omega)
  by_cases hp : ∃ r, PlainR (⟨#[120]⟩ ++ s) r
  · obtain ⟨r', hr'⟩ := hp
    obtain ⟨r, rfl, hok⟩ := plain_x hr'
    have HP := Lib.hid hr'
    clear hr'
    have hsz : (S (Pl.encs r)).size = (Pl.encs r).length := S_size _
    have hE := Escaped_any r base n cap w hok (by omega) (by omega) hd
    have hrl := encs_len_ge r
    go_enter Tryd.func4, Tryd.ntmps4
    go_wp2_with (first
      | (go_at_call 7; refine hP.mono ?_; rintro e w' ⟨⟨b, rfl, hb⟩, rfl⟩; obtain rfl := hb.2 ⟨_, HP.out⟩)
      | (go_at_call 8; refine hE.mono ?_; rintro e w' ⟨⟨q, rfl, hq1, hq2, hq3⟩, rfl⟩)
      | (go_at_call 6; refine (dec_any q _ hq2 (by have := encs_len_le q; omega) hT).mono ?_; rintro e w' ⟨rfl, hb⟩; rw [hq1]))
    go_ret
    exact ⟨by simp, by assumption⟩
  · go_enter Tryd.func4, Tryd.ntmps4
    go_wp2_with (go_at_call 7; refine hP.mono ?_; rintro e w' ⟨⟨b, rfl, hb⟩, rfl⟩; obtain rfl : b = false := by cases b with | false => rfl | true => exact absurd (hb.1 rfl) hp)
    go_ret
    exact ⟨rfl, Below.refl _ _⟩
end Go.Proofs.YtmomkkakjkkakaaDoor
