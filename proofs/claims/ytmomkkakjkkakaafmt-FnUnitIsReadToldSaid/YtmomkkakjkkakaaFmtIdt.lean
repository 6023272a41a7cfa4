/-
  WALK of Ident: a printer is made, the name is printed, and its bytes are returned.
-/
import Derived.Test.YtmomkkakjkkakaaFmtPid
import Derived.Laws.BytesArg
import Derived.Lib.BufferRead
set_option linter.unusedVariables false
set_option linter.unusedSimpArgs false
set_option maxRecDepth 100000
namespace Go.Proofs.YtmomkkakjkkakaaFmt
open Go.RowKit Go.Kit Go.Extern.Stop Go.Stop Go.Extern

/-- a printer that has printed nothing -/
def blank (ascii : Bool) : Obj := .cells #[.pointer none, .slice none 0 0, .map none, .int .i64 0, .int .u32 0, .int .u16 0, .bool false, .bool ascii, .int .u8 0, .bool false, .int .u8 0, .bool false, .int .u8 0, .slice none 0 0, .slice none 0 0, .slice none 0 0, .map none, .slice none 0 0, .slice none 0 0, .pointer none, .slice none 0 0, .slice none 0 0, .map none, .slice none 0 0, .string ⟨#[]⟩, .int .i64 0, .int .i64 0, .int .i64 0, .int .i64 0, .int .i64 0, .int .i64 0, .bool false, .int .i64 0, .int .i64 0, .int .i64 0, .int .i32 0, .int .u32 0, .bool false, .bool false, .bool false, .bool false, .int .i64 0, .int .i64 0] 84
theorem new_pr (w : World) (ascii : Bool) : Pr (w.alloc (blank ascii)) w.heap.size ascii (.slice none 0 0) [] :=
  ⟨⟨_, Blk.new w _ _, rfl, rfl, rfl, rfl⟩, World.ownsRow_nil _ _ _ _⟩
/-- the bytes of what was printed, as a string -/
theorem conv_own {w : World} {B : Nat} {v : Value} {d : List UInt8} (h : w.ownsRow B 5 1 v d.length (Lib.byteCells d)) :
    (convert 31 9 v).run Tryf.prog w = .ok (.string (S d)) w := by
  rcases h.2 with ⟨rfl, h0⟩ | ⟨g, cap, cur, rfl, hb, hg, hnc, hcm, hcs, htake⟩
  · obtain rfl := List.eq_nil_of_length_eq_zero h0
    exact run_convert_bytes_nil w _ 5 Tryf.underlying31 Tryf.underlying5 0 0 _ Tryf.underlying9
  · have hc : ∀ i, i < d.length → w.cell? ⟨g, 0 + i, none⟩ = some (.int .u8 ((d.map fun b => (b.toNat : Int)).getD i 0)) := by
      intro i hi
      rw [Nat.zero_add, cell_of_row w g i cur _ (0, 0) hg]
      have h1 : (cur.toList.take (d.length * 1))[i]? = (Lib.byteCells d)[i]? := by rw [htake]
      rw [List.getElem?_take, if_pos (by omega), Array.getElem?_toList] at h1
      rw [h1]
      simp [Lib.byteCells, List.getElem?_map, List.getElem?_eq_getElem hi, List.getD_eq_getElem?_getD]
    have := run_convert_bytes_arg w 31 5 Tryf.underlying31 Tryf.underlying5 g 0 d.length cap (d.map fun b => (b.toNat : Int)) (by simp) hc _ Tryf.underlying9
    rw [this]
    congr 2
    unfold strOfNums S
    congr 1
    rw [List.map_map]
    congr 1
    refine (List.map_congr_left fun b _ => ?_).trans (List.map_id d)
    simp
theorem mode_cases {m : Nat} (h : m ≤ 3) : m = 0 ∨ m = 1 ∨ m = 2 ∨ m = 3 := by omega
set_option maxHeartbeats 4000000 in
theorem zzident_any {F : Interp} {w : World} {x : ByteArray} {r : List Nat} {m ws : Nat} {ascii : Bool} (hm : m ≤ 3) (hw1 : ws ≤ 1) (hx : Str x r) (hne : r ≠ []) (hok : ∀ c ∈ r, Pl.Ok c) (hs : x.size ≤ 1099511627776) (hT : Tabs w) (hF : F.told.answers w.tape) :
    Calls Tryf.prog 32 #[.string x, .int .i64 m, .int .i64 ws, .bool ascii] w fun e w' => e = .returned (.string (S (Pl.encs (Pl.identF m (decide (ws = 0)) ascii r)))) ∧ Below w.heap.size w w' := by
  have HC := Lib.hid (pid_any (new_pr w ascii) (by simp) hm hw1 hx hne hok hs (hT.below ((Below.refl _ w).alloc (Nat.le_refl _) (blank ascii))) (show F.told.answers (w.alloc (blank ascii)).tape from hF))
  have HB := Lib.hid (show Below w.heap.size w (w.alloc (blank ascii)) from (Below.refl _ w).alloc (Nat.le_refl _) _)
  clear hx hne hok hT hF
  go_enter Tryf.func32, Tryf.ntmps32
  go_upto_block 0 with fail
  generalize hw1' : w.alloc (.cells #[.pointer none, .slice none 0 0, .map none, .int .i64 0, .int .u32 0, .int .u16 0, .bool false, .bool ascii, .int .u8 0, .bool false, .int .u8 0, .bool false, .int .u8 0, .slice none 0 0, .slice none 0 0, .slice none 0 0, .map none, .slice none 0 0, .slice none 0 0, .pointer none, .slice none 0 0, .slice none 0 0, .map none, .slice none 0 0, .string ⟨#[]⟩, .int .i64 0, .int .i64 0, .int .i64 0, .int .i64 0, .int .i64 0, .int .i64 0, .bool false, .int .i64 0, .int .i64 0, .int .i64 0, .int .i32 0, .int .u32 0, .bool false, .bool false, .bool false, .bool false, .int .i64 0, .int .i64 0] 84) = w1
  have HC1 := Lib.hid (by have := HC.out; unfold blank at this; rw [hw1'] at this; exact this : Calls Tryf.prog 47 #[.pointer (some ⟨w.heap.size, 0, none⟩), .string x, .int .u8 m, .int .u8 ws] w1 fun e w' => PrOut w.heap.size ascii w1 ([] ++ Pl.encs (Pl.identF m (decide (ws = 0)) ascii r)) e w')
  have HB1 := Lib.hid (by have := HB.out; unfold blank at this; rw [hw1'] at this; exact this : Below w.heap.size w w1)
  clear HC HB hw1'
  go_cut [10] (fun mv wr => mv = .int .u8 m ∧ w1 = wr)
  case first =>
    obtain rfl | rfl | rfl | rfl := mode_cases hm
    all_goals go_wp2_with fail
    all_goals go_meet
    all_goals exact ⟨rfl, rfl⟩
  case rest =>
    obtain ⟨rfl, hwe⟩ := hcut
    subst hwe
    obtain rfl | rfl := ws_cases hw1
    · have HC2 := Lib.hid (by have := HC1.out; rw [show ((0 : Nat) : Int) = 0 from rfl] at this; exact this : Calls Tryf.prog 47 #[.pointer (some ⟨w.heap.size, 0, none⟩), .string x, .int .u8 m, .int .u8 0] w1 fun e w' => PrOut w.heap.size ascii w1 ([] ++ Pl.encs (Pl.identF m (decide (0 = 0)) ascii r)) e w')
      go_wp2_with (go_at_call 47; (with_reducible refine HC2.out.mono ?_); rintro e w5 ⟨rfl, ⟨u5, hp5⟩, hk5⟩; have hcv := conv_own hp5.own; have c5 := hp5.css)
      go_ret
      exact ⟨rfl, HB1.out.trans hk5.below⟩
    · have HC2 := Lib.hid (by have := HC1.out; rw [show ((1 : Nat) : Int) = 1 from rfl] at this; exact this : Calls Tryf.prog 47 #[.pointer (some ⟨w.heap.size, 0, none⟩), .string x, .int .u8 m, .int .u8 1] w1 fun e w' => PrOut w.heap.size ascii w1 ([] ++ Pl.encs (Pl.identF m (decide (1 = 0)) ascii r)) e w')
      go_wp2_with (go_at_call 47; (with_reducible refine HC2.out.mono ?_); rintro e w5 ⟨rfl, ⟨u5, hp5⟩, hk5⟩; have hcv := conv_own hp5.own; have c5 := hp5.css)
      go_ret
      exact ⟨rfl, HB1.out.trans hk5.below⟩

theorem ident_any {F : Interp} {w : World} {x : ByteArray} {r : List Nat} {m ws : Nat} {ascii : Bool} (hm : m ≤ 3) (hw1 : ws ≤ 1) (hx : Str x r) (hne : r ≠ []) (hok : ∀ c ∈ r, Pl.Ok c) (hs : x.size ≤ 1099511627776) (hT : Tabs w) (hF : F.told.answers w.tape) :
    Calls Tryf.prog 15 #[.string x, .int .i64 m, .int .i64 ws, .bool ascii] w fun e w' => e = .returned (.string (S (Pl.encs (Pl.identF m (decide (ws = 0)) ascii r)))) ∧ Below w.heap.size w w' := by
  have HC := Lib.hid (zzident_any (ascii := ascii) hm hw1 hx hne hok hs hT hF)
  clear hx hne hok hT hF
  go_enter Tryf.func15, Tryf.ntmps15
  go_wp2_with (go_at_call 32; (with_reducible refine HC.out.mono ?_); rintro e w5 ⟨rfl, hb⟩)
  go_ret
  exact ⟨rfl, hb⟩
end Go.Proofs.YtmomkkakjkkakaaFmt
