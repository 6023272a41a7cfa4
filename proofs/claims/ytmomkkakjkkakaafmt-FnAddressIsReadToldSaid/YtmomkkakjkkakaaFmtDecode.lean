/-
  PLAIN: Go's decoder gives the code point that stands at a place; WALK of utf8.DecodeRuneInString by its contract.
-/
import Derived.Test.YtmomkkakjkkakaaFmtRune
import Derived.Test.YtmomkkakjkkakaaFmtBld
import Derived.Lib.DecodeN
set_option linter.unusedVariables false
set_option linter.unusedSimpArgs false
set_option maxRecDepth 100000
namespace Go.Proofs.YtmomkkakjkkakaaFmt
open Go.RowKit

theorem get_bt (s : ByteArray) (i : Nat) : (s.get! i).toNat = bt s i := by
  unfold bt
  congr 1
  rw [List.getD_eq_getElem?_getD, Array.getElem?_toList]
  show s.data[i]! = _
  rw [getElem!_def]
  cases s.data[i]? <;> rfl

theorem dec_at {s : ByteArray} {k c : Nat} {T : List UInt8} (hc : Pl.Sc c) (h : s.data.toList.drop k = Pl.enc c ++ T) : Utf8.decode s k = (c, (Pl.enc c).length) := by
  rw [Lib.decode_at, get_bt, get_bt, get_bt, get_bt]
  unfold Pl.Sc at hc
  have b0 := bt_drop h 0
  have b1 := bt_drop h 1
  have b2 := bt_drop h 2
  have b3 := bt_drop h 3
  have l1 := lt_of_drop h 1
  have l2 := lt_of_drop h 2
  have l3 := lt_of_drop h 3
  simp only [Nat.add_zero] at b0
  obtain ⟨n, hn⟩ : ∃ n, n = s.size - k := ⟨_, rfl⟩
  rw [← hn]
  unfold Lib.decodeN
  rcases Nat.lt_or_ge c 128 with g1 | g1
  · rw [enc1 g1] at b0 ⊢
    have e0 : bt s k = c := by rw [b0]; simp; omega
    rw [if_pos (by omega), e0]; rfl
  rcases Nat.lt_or_ge c 2048 with g2 | g2
  · rw [enc2 g1 g2] at b0 b1 l1 ⊢
    have e0 : bt s k = 192 + c / 64 := by rw [b0]; simp; omega
    have e1 : bt s (k + 1) = 128 + c % 64 := by rw [b1]; simp; omega
    have k1 : k + 1 < s.size := l1.2 (by simp)
    rw [if_neg (by omega), if_pos (by omega), if_pos (by omega)]
    show (_, 2) = _
    congr 1; omega
  rcases Nat.lt_or_ge c 65536 with g3 | g3
  · rw [enc3 (by omega)] at b0 b1 b2 l1 l2 ⊢
    have e0 : bt s k = 224 + c / 4096 := by rw [b0]; simp; omega
    have e1 : bt s (k + 1) = 128 + c / 64 % 64 := by rw [b1]; simp; omega
    have e2 : bt s (k + 2) = 128 + c % 64 := by rw [b2]; simp; omega
    have k1 : k + 1 < s.size := l1.2 (by simp)
    have k2 : k + 2 < s.size := l2.2 (by simp)
    rw [if_neg (by omega), if_neg (by omega), if_pos (by omega), if_pos (by omega)]
    show (_, 3) = _
    congr 1; omega
  · rw [enc4 g3 (by omega)] at b0 b1 b2 b3 l1 l2 l3 ⊢
    have e0 : bt s k = 240 + c / 262144 := by rw [b0]; simp; omega
    have e1 : bt s (k + 1) = 128 + c / 4096 % 64 := by rw [b1]; simp; omega
    have e2 : bt s (k + 2) = 128 + c / 64 % 64 := by rw [b2]; simp; omega
    have e3 : bt s (k + 3) = 128 + c % 64 := by rw [b3]; simp; omega
    have k1 : k + 1 < s.size := l1.2 (by simp)
    have k2 : k + 2 < s.size := l2.2 (by simp)
    have k3 : k + 3 < s.size := l3.2 (by simp)
    rw [if_neg (by omega), if_neg (by omega), if_neg (by omega), if_pos (by omega), if_pos (by omega)]
    show (_, 4) = _
    congr 1; omega

/-- the tables of the decoder stand in a world -/
def Tabs (w : World) : Prop := Lib.Utf8Tabs 0 1 w
theorem Tabs.below {w w' : World} (h : Tabs w) (hb : Below w.heap.size w w') : Tabs w' := Utf8Tabs_below h hb

theorem decode_cons (c : Nat) (r : List Nat) (w : World) (hc : Pl.Sc c) (hT : Tabs w) :
    Calls Tryf.prog 73 #[.string (S (Pl.encs (c :: r)))] w fun e w' => e = .returned (.tuple #[.int .i32 c, .int .i64 (Pl.enc c).length]) ∧ Below w.heap.size w w' := by
  have hn := enc_len_pos c
  have hsz : (S (Pl.encs (c :: r))).size ≠ 0 := by rw [S_size, Pl.encs_cons, List.length_append]; omega
  have hd : Lib.decodeGo (S (Pl.encs (c :: r))) = (c, (Pl.enc c).length) := by
    unfold Lib.decodeGo
    rw [if_neg hsz]
    exact dec_at (T := Pl.encs r) hc (by rw [S_data, Pl.encs_cons]; rfl)
  have := Tryf.utf8_DecodeRuneInString (S (Pl.encs (c :: r))) w hT
  rw [hd] at this
  exact this
theorem decode_nil (w : World) (hT : Tabs w) :
    Calls Tryf.prog 73 #[.string ⟨#[]⟩] w fun e w' => e = .returned (.tuple #[.int .i32 65533, .int .i64 0]) ∧ Below w.heap.size w w' :=
  Tryf.utf8_DecodeRuneInString ⟨#[]⟩ w hT
end Go.Proofs.YtmomkkakjkkakaaFmt
