/-
  THE READER's STATE in memory: peek and take.
-/
import Derived.Test.YtmomkkakjkkakaaFmtRune
import Derived.Deep.QuietTactic
import Derived.BigQuiet
import Derived.Deep.Draws
import Derived.Laws.OwnMore
import Derived.Laws.Rows
set_option linter.unusedVariables false
set_option linter.unusedSimpArgs false
set_option maxRecDepth 100000
namespace Go.Proofs.YtmomkkakjkkakaaFmt
open Go.RowKit

/-! ## a block that is known whole -/
def Blk (w : World) (g : Nat) (t : TypeId) (cs : Array Value) : Prop := w.heap[g]? = some (.cells cs t (0, 0))
section
variable {w w' : World} {g : Nat} {t : TypeId} {cs : Array Value}
theorem Blk.lt (h : Blk w g t cs) : g < w.heap.size := by
  rcases Nat.lt_or_ge g w.heap.size with hlt | hge
  · exact hlt
  · unfold Blk at h; rw [Array.getElem?_eq_none hge] at h; cases h
theorem Blk.cell (h : Blk w g t cs) (i : Nat) : w.cell? ⟨g, i, none⟩ = cs[i]? := cell_of_row w g i cs t (0, 0) h
theorem Blk.frozen (h : Blk w g t cs) (i : Nat) : w.frozen? ⟨g, i, none⟩ = false := by
  unfold Blk at h
  simp [World.frozen?, h]
theorem Blk.new (w : World) (t : TypeId) (cs : Array Value) : Blk (w.alloc (.cells cs t)) w.heap.size t cs := heap_alloc_new w _
theorem Blk.drew (h : Blk w g t cs) : Blk w.drew g t cs := h
theorem Blk.drewN (h : Blk w g t cs) (n : Nat) : Blk (w.drewN n) g t cs := h
theorem Blk.alloc (h : Blk w g t cs) (o : Obj) : Blk (w.alloc o) g t cs := (Below.heap_alloc w o g h.lt).trans h
theorem Blk.put (h : Blk w g t cs) (i : Nat) (u : Value) : Blk (w.setCell ⟨g, i, none⟩ u) g t (cs.setIfInBounds i u) := by
  unfold Blk at h ⊢
  simp [World.setCell, Array.getElem?_modify, h]
theorem Blk.far (h : Blk w g t cs) {p : Addr} (hp : g ≠ p.block) (u : Value) : Blk (w.setCell p u) g t cs := (Below.heap_setCell w p u g hp).trans h
theorem Blk.grown {row : Option Nat} (h : Blk w g t cs) (hb : w.grownBy w' row) (hg : some g ≠ row) : Blk w' g t cs := (hb.block g h.lt hg).trans h
end

/-! ## nothing that was there has turned, but one block -/
theorem gr_refl (w : World) (row : Option Nat) : w.grownBy w row := World.grownBy.refl w row
theorem gr_trans {a b c : World} {row : Option Nat} (h : a.grownBy b row) (k : b.grownBy c row) : a.grownBy c row :=
  ⟨k.os.trans h.os, k.tape.trans h.tape, k.output.trans h.output, Nat.le_trans h.size k.size, fun i hi hn => (k.block i (Nat.lt_of_lt_of_le hi h.size) hn).trans (h.block i hi hn)⟩
theorem gr_none {a b : World} {row : Option Nat} (h : a.grownBy b none) : a.grownBy b row := ⟨h.os, h.tape, h.output, h.size, fun i hi _ => h.block i hi (by simp)⟩
theorem gr_drew {a w : World} {row : Option Nat} (h : a.grownBy w row) : a.grownBy w.drew row := ⟨h.os, h.tape, h.output, h.size, h.block⟩
theorem gr_drewN {a w : World} {row : Option Nat} (h : a.grownBy w row) (n : Nat) : a.grownBy (w.drewN n) row := ⟨h.os, h.tape, h.output, h.size, h.block⟩
theorem gr_alloc {a w : World} {row : Option Nat} (h : a.grownBy w row) (o : Obj) : a.grownBy (w.alloc o) row :=
  gr_trans h (World.grownBy_alloc w o row)
theorem gr_put {a w : World} {g : Nat} (h : a.grownBy w (some g)) (i : Nat) (u : Value) : a.grownBy (w.setCell ⟨g, i, none⟩ u) (some g) :=
  ⟨h.os, h.tape, h.output, by simpa [World.setCell] using h.size, fun k hk hne => (Below.heap_setCell w _ u k (by rintro rfl; exact hne rfl)).trans (h.block k hk hne)⟩

/-! ## the reader's state -/
/-- block B holds the reader: its text s, of which r is left; its comments; whether it is left open -/
structure Lx (w : World) (B : Nat) (s : ByteArray) (r : List Nat) (cm : Value) (b : Bool) : Prop where
  blk : Blk w B 53 #[.string s, .int .i64 (Pl.posN s.size r), cm, .bool b]
  txt : s.data.toList.drop (Pl.posN s.size r) = Pl.encs r
  ok : ∀ c ∈ r, Pl.Ok c
  le : (Pl.encs r).length ≤ s.size
  small : s.size ≤ 1099511627776

def adv (r : List Nat) : Int := match r with | [] => 0 | c :: _ => ((Pl.enc c).length : Int)
theorem posN_le (T : Nat) (r : List Nat) : Pl.posN T r ≤ T := by unfold Pl.posN; omega
theorem posN_adv {T : Nat} {r : List Nat} (h : (Pl.encs r).length ≤ T) : (Pl.posN T r : Int) + adv r = Pl.posN T r.tail := by
  cases r with
  | nil => simp [adv]
  | cons c t =>
    rw [Pl.encs_cons, List.length_append] at h
    unfold Pl.posN adv
    rw [Pl.encs_cons, List.length_append]
    simp only [List.tail_cons]; omega
theorem adv_bd (r : List Nat) : 0 ≤ adv r ∧ adv r ≤ 4 := by
  cases r with
  | nil => simp [adv]
  | cons c t => have := enc_len_le c; simp only [adv]; omega
theorem tail_le {T : Nat} {r : List Nat} (h : (Pl.encs r).length ≤ T) : (Pl.encs r.tail).length ≤ T := by
  cases r with
  | nil => exact h
  | cons c t => rw [Pl.encs_cons, List.length_append] at h; simp only [List.tail_cons]; omega
theorem tail_txt {s : ByteArray} {r : List Nat} (h : (Pl.encs r).length ≤ s.size) (ht : s.data.toList.drop (Pl.posN s.size r) = Pl.encs r) :
    s.data.toList.drop (Pl.posN s.size r.tail) = Pl.encs r.tail := by
  cases r with
  | nil => exact ht
  | cons c t =>
    have hp : Pl.posN s.size t = Pl.posN s.size (c :: t) + (Pl.enc c).length := by
      rw [Pl.encs_cons, List.length_append] at h
      unfold Pl.posN
      rw [Pl.encs_cons, List.length_append]; omega
    simp only [List.tail_cons]
    rw [hp, ← List.drop_drop, ht, Pl.encs_cons, List.drop_left]
theorem drop_le {T : Nat} {r : List Nat} (h : (Pl.encs r).length ≤ T) (j : Nat) : (Pl.encs (r.drop j)).length ≤ T := by
  induction j with
  | zero => simpa using h
  | succ j ih => rw [← List.tail_drop]; exact tail_le ih
theorem drop_txt {s : ByteArray} {r : List Nat} (h : (Pl.encs r).length ≤ s.size) (ht : s.data.toList.drop (Pl.posN s.size r) = Pl.encs r) (j : Nat) :
    s.data.toList.drop (Pl.posN s.size (r.drop j)) = Pl.encs (r.drop j) := by
  induction j with
  | zero => simpa using ht
  | succ j ih => rw [← List.tail_drop]; exact tail_txt (drop_le h j) ih
theorem runeV_pk {s : ByteArray} {r : List Nat} (ht : s.data.toList.drop (Pl.posN s.size r) = Pl.encs r) (hok : ∀ c ∈ r, Pl.Ok c) : runeV s (Pl.posN s.size r) = (Pl.pk r 0, adv r) := by
  cases r with
  | nil => rw [runeV_end ht]; rfl
  | cons c t =>
    rw [Pl.encs_cons] at ht
    rw [runeV_cp (hok c (by simp)).1 ht]; rfl
theorem pk_drop (r : List Nat) (j : Nat) : Pl.pk (r.drop j) 0 = Pl.pk r j := by
  simp [Pl.pk, List.getElem?_drop]
theorem runeAt_lx {s : ByteArray} {r : List Nat} (w : World) (ht : s.data.toList.drop (Pl.posN s.size r) = Pl.encs r) (hok : ∀ c ∈ r, Pl.Ok c) (hs : s.size ≤ 1099511627776) :
    Calls Tryf.prog 35 #[.string s, .int .i64 (Pl.posN s.size r)] w fun e w' => e = .returned (.tuple #[.int .i64 (Pl.pk r 0), .int .i64 (adv r)]) ∧ w = w' := by
  have h := runeAt_any s (Pl.posN s.size r) w hs (Nat.le_trans (posN_le _ _) hs)
  rw [runeV_pk ht hok] at h
  exact h

theorem Lx.next {w w' : World} {B : Nat} {s : ByteArray} {r : List Nat} {cm : Value} {b b' : Bool} {cm' : Value} (h : Lx w B s r cm b)
    (hb : Blk w' B 53 #[.string s, .int .i64 (Pl.posN s.size r.tail), cm', .bool b']) : Lx w' B s r.tail cm' b' :=
  ⟨hb, tail_txt h.le h.txt, fun c hc => h.ok c (List.mem_of_mem_tail hc), tail_le h.le, h.small⟩
theorem Lx.keep {w w' : World} {B : Nat} {s : ByteArray} {r : List Nat} {cm : Value} {b : Bool} (h : Lx w B s r cm b) {row : Option Nat} (hg : w.grownBy w' row) (hne : some B ≠ row) : Lx w' B s r cm b :=
  ⟨h.blk.grown hg hne, h.txt, h.ok, h.le, h.small⟩

theorem peek_any {w : World} {B : Nat} {s : ByteArray} {r : List Nat} {cm : Value} {b : Bool} (h : Lx w B s r cm b) (k : Nat) (hk : k ≤ 8) :
    Calls Tryf.prog 55 #[.pointer (some ⟨B, 0, none⟩), .int .i64 k] w fun e w' => e = .returned (.int .i64 (Pl.pk r k)) ∧ w = w' := by
  have c0 := h.blk.cell 0
  have c1 := h.blk.cell 1
  simp only [List.getElem?_toArray, List.getElem?_cons_zero, List.getElem?_cons_succ] at c0 c1
  have HT := Lib.hid (drop_txt h.le h.txt)
  have HL := Lib.hid (drop_le (T := s.size) h.le)
  have HO := Lib.hid h.ok
  have hs := h.small
  clear h
  go_enter Tryf.func55, Tryf.ntmps55
  go_wp2_with fail
  go_loop [5, 15] (fun p i => ∃ j : Nat, j ≤ k ∧ i = .int .i64 j ∧ p = .int .i64 (Pl.posN s.size (r.drop j))) (fun _ i => k - (intOf i).toNat)
  case atStart => exact ⟨0, by omega, rfl, by simp⟩
  case round =>
    obtain ⟨j, hj, rfl, rfl⟩ := hrel
    have hbd := adv_bd (r.drop j)
    have hpl := posN_le s.size (r.drop j)
    by_cases hlt : j < k
    · go_wp2_with (go_at_call 35; refine (runeAt_lx _ (HT.out j) (fun c hc => HO.out c (List.mem_of_mem_drop hc)) hs).mono ?_; rintro e w' ⟨rfl, rfl⟩)
      all_goals
        go_round
        case rel => exact ⟨j + 1, by omega, by go_num, by rw [posN_adv (HL.out j), List.tail_drop]⟩
        case measure => simp [intOf]; omega
    · obtain rfl : j = k := by omega
      go_wp2_with (go_at_call 35; refine (runeAt_lx _ (HT.out j) (fun c hc => HO.out c (List.mem_of_mem_drop hc)) hs).mono ?_; rintro e w' ⟨rfl, rfl⟩)
      go_ret
      exact ⟨ret_int (pk_drop r j), rfl⟩

end Go.Proofs.YtmomkkakjkkakaaFmt
