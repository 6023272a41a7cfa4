/-
  WALK of Escaped: what it gives is decoded as the text.
-/
import Derived.Test.YtmomkkakjkkakaaDoorHexd
import Derived.Test.YtmomkkakjkkakaaDoorSt
import Derived.Deep.LoopGhost
import Derived.Deep.DeepCutAuto
set_option linter.unusedVariables false
set_option linter.unusedSimpArgs false
set_option maxRecDepth 100000
namespace Go.Proofs.YtmomkkakjkkakaaDoor
open Go.RowKit

theorem hex_tab : ∀ k : Fin 16, (⟨#[48, 49, 50, 51, 52, 53, 54, 55, 56, 57, 97, 98, 99, 100, 101, 102]⟩ : ByteArray).extract k.val (k.val + 1) = S (Pl.encs [hexd k.val]) := by
  intro k
  have e : Pl.encs [hexd k.val] = [UInt8.ofNat (hexd k.val)] := encs_ascii _ (by intro c hc; rw [List.mem_singleton] at hc; subst hc; exact (hexd_lt k.isLt).2)
  rw [e]
  revert k
  decide
theorem hexD_cons {n : Nat} {d : List Nat} (hn : n < 16) (h : HexD d) : HexD (hexd n :: d) := by
  intro x hx
  rcases List.mem_cons.mp hx with rfl | hx
  · exact ⟨n, hn, rfl⟩
  · exact h x hx
theorem encs_len_le4 (l : List Nat) : (Pl.encs l).length ≤ 4 * l.length := by
  induction l with
  | nil => simp [Pl.encs]
  | cons c r ih => rw [Pl.encs_cons, List.length_append]; have := enc_len_le c; simp only [List.length_cons]; omega
/-- a slice of whole numbers -/
def Nums (w : World) (base : Option Addr) (n : Nat) : Prop := ∀ i : Nat, i < n → ∃ b off z, base = some ⟨b, off, none⟩ ∧ w.cell? ⟨b, off + i, none⟩ = some (.int .i64 z)

set_option maxHeartbeats 8000000 in
theorem Escaped_any (r : List Nat) (base : Option Addr) (n cap : Nat) (w : World) (hok : ∀ c ∈ r, Pl.Ok c) (hs : (Pl.encs r).length ≤ 1099511627776) (hn : n ≤ 1099511627776) (hd : Nums w base n) :
    Calls Tryd.prog 8 #[.string (S (Pl.encs r)), .slice base n cap] w fun e w' => (∃ q, e = .returned (.string (S (Pl.encs q))) ∧ Pl.decF q = r ∧ (∀ c ∈ q, Pl.Ok c) ∧ q.length ≤ 8 * r.length) ∧ w' = w := by
  obtain ⟨s, hse⟩ : ∃ s, s = S (Pl.encs r) := ⟨_, rfl⟩
  have hst : Str s r := by rw [hse]; exact Str.of r
  rw [← hse]
  have hsz := hst.size
  have HO := Lib.hid hok
  have HT := Lib.hid hst.txt
  have HD := Lib.hid hd
  have hrl : r.length ≤ 1099511627776 := by have := encs_len_ge r; omega
  rw [← hsz] at hs
  clear hse hst hsz hok hd
  go_enter Tryd.func8, Tryd.ntmps8
  go_wp2_with fail
  go_loopg [5, 6, 7] r.length (fun k ov av iv wr => ∃ (a t q : List Nat), t.length = k ∧ ov = .string (S (Pl.encs q)) ∧ av = .int .i64 (Pl.encs a).length ∧ iv = .int .i64 a.length ∧ wr = w ∧ a.length + t.length ≤ r.length ∧ (Pl.encs a).length ≤ s.size ∧ q.length ≤ 8 * a.length ∧
    Hid (r = a ++ t ∧ (∀ x, Pl.decF (q ++ x) = a ++ Pl.decF x) ∧ ∀ c ∈ q, Pl.Ok c))
  case atStart => exact ⟨[], r, [], rfl, rfl, rfl, rfl, rfl, by simp, by simp [Pl.encs], by simp, Lib.hid ⟨rfl, fun x => rfl, by simp⟩⟩
  case round =>
    obtain ⟨a, t, q, rfl, rfl, rfl, rfl, hwe, hat, hal, hql, HE⟩ := hrel
    subst wr
    have hdr : s.data.toList.drop (Pl.encs a).length = Pl.encs t := by rw [HT.out, HE.out.1, Pl.encs_append, List.drop_left]
    cases t with
    | nil =>
      have hl : ¬ (Pl.encs a).length < s.size := by
        have := lt_of_drop hdr 0
        simp only [Pl.encs_nil, List.length_nil] at this
        omega
      clear hdr
      go_wp2_with fail
      go_ret
      refine ⟨⟨q, rfl, ?_, HE.out.2.2, by omega⟩, rfl⟩
      have := HE.out.2.1 []
      rw [Pl.decF_nil, List.append_nil, List.append_nil] at this
      rw [this, HE.out.1, List.append_nil]
    | cons c t =>
      have hco := HO.out c (by rw [HE.out.1]; simp)
      have hcs : Pl.Sc c := hco.1
      have hc1 : c ≤ 1114111 := by have := hcs; unfold Pl.Sc at this; omega
      have hcp := enc_len_pos c
      have hcl := enc_len_le c
      have hl : (Pl.encs a).length < s.size := by
        have := lt_of_drop hdr 0
        rw [Pl.encs_cons, List.length_append] at this
        omega
      have hA := runeAt_any s (Pl.encs a).length w hs (by omega)
      rw [runeV_cp hcs (by rw [hdr, Pl.encs_cons])] at hA
      have HC := Lib.hid hco
      have HDR := Lib.hid hdr
      clear hdr hco
      go_upto_region 8 with (go_at_call 11; refine hA.mono ?_; rintro e w' ⟨rfl, rfl⟩)
      go_cut [10, 44] (fun lv tv wr => lv = .int .i64 1 ∧ ∃ bb : Bool, tv = .bool bb ∧ wr = w ∧ (bb = true → a.length < n ∧ ∃ z b off, base = some ⟨b, off, none⟩ ∧ w.cell? ⟨b, off + a.length, none⟩ = some (.int .i64 z) ∧ 1 < z ∧ z < 7))
      case first =>
        by_cases hi : a.length < n
        · obtain ⟨b, off, z, rfl, hz⟩ := HD.out _ hi
          by_cases h1 : 1 < z
          · by_cases h7 : z < 7
            · go_wp2_with fail
              go_meet
              exact ⟨rfl, true, rfl, rfl, fun _ => ⟨hi, z, b, off, rfl, hz, h1, h7⟩⟩
            · go_wp2_with fail
              go_meet
              exact ⟨rfl, false, rfl, rfl, fun h => absurd h (by decide)⟩
          · go_wp2_with fail
            go_meet
            exact ⟨rfl, false, rfl, rfl, fun h => absurd h (by decide)⟩
        · go_wp2_with fail
          go_meet
          exact ⟨rfl, false, rfl, rfl, fun h => absurd h (by decide)⟩
      case rest =>
        obtain ⟨rfl, bb, rfl, rfl, hbb⟩ := hcut
        go_upto_if 44 with fail
        go_cut [10] (fun lv wr => ∃ least : Int, lv = .int .i64 least ∧ 1 ≤ least ∧ least ≤ 6 ∧ wr = wc)
        case first =>
          cases bb with
          | true =>
            obtain ⟨hi, z, b, off, rfl, hz, h1, h7⟩ := hbb rfl
            clear hbb
            go_wp2_with fail
            go_meet
            exact ⟨z, rfl, by omega, by omega, rfl⟩
          | false =>
            clear hbb
            go_wp2_with fail
            go_meet
            exact ⟨1, rfl, by omega, by omega, rfl⟩
        case rest =>
        clear hbb
        obtain ⟨least, rfl, hl1, hl6, hwe⟩ := hcut
        subst hwe
        go_wp2_with fail
        go_loopg [8, 11] 6 (fun k cv dv wr => ∃ (m : Nat) (dd : List Nat), 6 - dd.length = k ∧ cv = .int .i64 m ∧ dv = .string (S (Pl.encs dd)) ∧ wr = wc ∧ dd.length ≤ 6 ∧ m ≤ c ∧ Hid (HexD dd ∧ hval dd + m * 16 ^ dd.length = c))
        case atStart => exact ⟨c, [], rfl, rfl, rfl, rfl, by simp, Nat.le_refl _, Lib.hid ⟨fun x hx => by simp at hx, by simp [hval]⟩⟩
        case round =>
          obtain ⟨m, dd, rfl, rfl, rfl, hwe, hd6, hmc, HV⟩ := hrel
          subst hwe
          have hsd : (S (Pl.encs dd)).size = dd.length := by rw [S_size, encs_ascii dd (fun x hx => by obtain ⟨y, hy, e⟩ := HV.out.1 x hx; rw [e]; exact (hexd_lt hy).2), List.length_map]
          have e15 := i64_and15 m (by omega) (by omega)
          have etab := hex_tab ⟨m % 16, Nat.mod_lt _ (by omega)⟩
          have hs1 : (S (Pl.encs [hexd (m % 16)])).size = 1 := by rw [S_size, encs_ascii _ (fun x hx => by rw [List.mem_singleton] at hx; subst hx; exact (hexd_lt (Nat.mod_lt _ (by omega))).2)]; rfl
          by_cases hm : 0 < m
          · have hd5 := hval_lt HV.out.1 HV.out.2 hm (by omega)
            go_wp2_with fail
            go_roundg (6 - (dd.length + 1))
            case measure => omega
            case rel => exact ⟨m / 16, hexd (m % 16) :: dd, rfl, by simp, by rw [S_append, ← Pl.encs_append]; rfl, rfl, by simp only [List.length_cons]; omega, by omega, Lib.hid ⟨hexD_cons (Nat.mod_lt _ (by omega)) HV.out.1, hval_step HV.out.2⟩⟩
          · have hm0 : ¬ 0 < m := hm
            by_cases hlt : (dd.length : Int) < least
            · go_wp2_with fail
              go_roundg (6 - (dd.length + 1))
              case measure => omega
              case rel => exact ⟨m / 16, hexd (m % 16) :: dd, rfl, by simp, by rw [S_append, ← Pl.encs_append]; rfl, rfl, by simp only [List.length_cons]; omega, by omega, Lib.hid ⟨hexD_cons (Nat.mod_lt _ (by omega)) HV.out.1, hval_step HV.out.2⟩⟩
            · have hne : dd ≠ [] := by rintro rfl; simp at hlt; omega
              have hval0 : hval dd = c := by
                have := HV.out.2
                rw [show m = 0 by omega] at this
                simpa using this
              have H2 := Lib.hid (And.intro hne hval0)
              have hqs : (S (Pl.encs q)).size ≤ 43980465111040 := by rw [S_size]; have := encs_len_le4 q; omega
              have hcc : (Pl.encs a).length + (Pl.enc c).length ≤ s.size := by
                have e := congrArg List.length HDR.out
                rw [Pl.encs_cons] at e
                have : s.data.toList.length = s.size := by rw [Array.length_toList]; rfl
                simp only [List.length_drop, List.length_append] at e
                omega
              clear hne hval0
              go_wp2_with fail
              go_roundg t.length
              case measure => simp
              case rel =>
                refine ⟨a ++ [c], t, q ++ 92 :: (dd ++ [32]), rfl, ?_, ?_, by simp, rfl, ?_, ?_, ?_, Lib.hid ⟨?_, ?_, ?_⟩⟩
                · rw [show (⟨#[92]⟩ : ByteArray) = S (Pl.encs [92]) from by rw [encs_ascii _ (by simp)]; rfl, show (⟨#[32]⟩ : ByteArray) = S (Pl.encs [32]) from by rw [encs_ascii _ (by simp)]; rfl, S_append, S_append, S_append, ← Pl.encs_append, ← Pl.encs_append, ← Pl.encs_append]
                  simp
                · rw [Pl.encs_append, List.length_append, Pl.encs_cons, Pl.encs_nil, List.append_nil]; simp
                · simp only [List.length_append, List.length_cons, List.length_nil] at hat ⊢; omega
                · rw [Pl.encs_append, List.length_append, Pl.encs_cons, Pl.encs_nil, List.append_nil]; exact hcc
                · simp only [List.length_append, List.length_cons, List.length_nil]; omega
                · rw [HE.out.1]; simp
                · intro x
                  rw [List.append_assoc, HE.out.2.1, List.append_assoc, List.cons_append, List.append_assoc]
                  congr 1
                  exact decF_item HC.out HV.out.1 H2.out.1 hd6 H2.out.2 x
                · intro x hx
                  simp only [List.mem_append, List.mem_cons, List.mem_nil_iff, or_false] at hx
                  rcases hx with hx | hx | hx | hx
                  · exact HE.out.2.2 x hx
                  · subst hx; exact ⟨.inl (by omega), by omega⟩
                  · exact hexd_ok HV.out.1 x hx
                  · subst hx; exact ⟨.inl (by omega), by omega⟩
end Go.Proofs.YtmomkkakjkkakaaDoor
