/-
  WALKS of the reader's sign and next.
-/
import Derived.Test.YtmomkkakjkkakaaFmtNamed
set_option linter.unusedVariables false
set_option linter.unusedSimpArgs false
set_option maxRecDepth 100000
namespace Go.Proofs.YtmomkkakjkkakaaFmt
open Go.RowKit


theorem sign_123 {W w : World} {B : Nat} {s : ByteArray} {r : List Nat} {cm : Value} {b : Bool} (h : Lx w B s r cm b) (g : W.grownBy w (some B)) (hc : Pl.pk r 0 = 123) :
    Calls Tryf.prog 65 #[.pointer (some ⟨B, 0, none⟩)] w fun e w' => e = .returned (tokV 31 0 0 0 false (S [])) ∧ (Lx w' B s r.tail cm b ∧ W.grownBy w' (some B)) := by
  have hlt := h.blk.lt
  go_enter Tryf.func65, Tryf.ntmps65
  go_wp2_with fail
  obtain ⟨R, hR⟩ : ∃ R, R = w.heap.size := ⟨_, rfl⟩
  rw [← hR]
  obtain ⟨W1, hW1⟩ : ∃ W1, W1 = w.alloc (.cells #[.int .i64 0, .int .i64 0, .int .i64 0, .int .i64 0, .bool false, .string ⟨#[]⟩] 25) := ⟨_, rfl⟩
  rw [← hW1]
  have HB : Hid (Boxed W1 R B) := Lib.hid ⟨by rw [hW1, hR]; exact Blk.new _ _ _, by omega⟩
  have h1 : Lx W1 B s r cm b := by rw [hW1]; exact h.keep (World.grownBy_alloc w _ none) (by simp)
  have HG : Hid (W.grownBy W1 (some B) ∧ W.heap.size ≤ R) := Lib.hid ⟨by rw [hW1]; exact gr_alloc g _, by rw [hR]; exact g.size⟩
  clear hW1 hR h g hlt
  have g1 := gr_refl W1 (some B)
  go_wp2_with (first | (go_at_call 56; refine (take_from (by assumption) (by assumption)).mono ?_; rintro e w' ⟨rfl, h', g'⟩; have bx := HB.out.at_ g'))
  refine bodyPost_ret (v := tokV 31 0 0 0 false (S [])) (by simp [results, Tryf.results65, go_sem, tokV, S, bx]) rfl ⟨rfl, Lx.cast (Lx.tok (by assumption) HB.out.ne) rfl rfl, gr_tok (gr_trans HG.out.1 g') HG.out.2⟩

theorem sign_125 {W w : World} {B : Nat} {s : ByteArray} {r : List Nat} {cm : Value} {b : Bool} (h : Lx w B s r cm b) (g : W.grownBy w (some B)) (hc : Pl.pk r 0 = 125) :
    Calls Tryf.prog 65 #[.pointer (some ⟨B, 0, none⟩)] w fun e w' => e = .returned (tokV 6 0 0 0 false (S [])) ∧ (Lx w' B s r.tail cm b ∧ W.grownBy w' (some B)) := by
  have hlt := h.blk.lt
  go_enter Tryf.func65, Tryf.ntmps65
  go_wp2_with fail
  obtain ⟨R, hR⟩ : ∃ R, R = w.heap.size := ⟨_, rfl⟩
  rw [← hR]
  obtain ⟨W1, hW1⟩ : ∃ W1, W1 = w.alloc (.cells #[.int .i64 0, .int .i64 0, .int .i64 0, .int .i64 0, .bool false, .string ⟨#[]⟩] 25) := ⟨_, rfl⟩
  rw [← hW1]
  have HB : Hid (Boxed W1 R B) := Lib.hid ⟨by rw [hW1, hR]; exact Blk.new _ _ _, by omega⟩
  have h1 : Lx W1 B s r cm b := by rw [hW1]; exact h.keep (World.grownBy_alloc w _ none) (by simp)
  have HG : Hid (W.grownBy W1 (some B) ∧ W.heap.size ≤ R) := Lib.hid ⟨by rw [hW1]; exact gr_alloc g _, by rw [hR]; exact g.size⟩
  clear hW1 hR h g hlt
  have g1 := gr_refl W1 (some B)
  go_wp2_with (first | (go_at_call 56; refine (take_from (by assumption) (by assumption)).mono ?_; rintro e w' ⟨rfl, h', g'⟩; have bx := HB.out.at_ g'))
  refine bodyPost_ret (v := tokV 6 0 0 0 false (S [])) (by simp [results, Tryf.results65, go_sem, tokV, S, bx]) rfl ⟨rfl, Lx.cast (Lx.tok (by assumption) HB.out.ne) rfl rfl, gr_tok (gr_trans HG.out.1 g') HG.out.2⟩

theorem sign_91 {W w : World} {B : Nat} {s : ByteArray} {r : List Nat} {cm : Value} {b : Bool} (h : Lx w B s r cm b) (g : W.grownBy w (some B)) (hc : Pl.pk r 0 = 91) :
    Calls Tryf.prog 65 #[.pointer (some ⟨B, 0, none⟩)] w fun e w' => e = .returned (tokV 32 0 0 0 false (S [])) ∧ (Lx w' B s r.tail cm b ∧ W.grownBy w' (some B)) := by
  have hlt := h.blk.lt
  go_enter Tryf.func65, Tryf.ntmps65
  go_wp2_with fail
  obtain ⟨R, hR⟩ : ∃ R, R = w.heap.size := ⟨_, rfl⟩
  rw [← hR]
  obtain ⟨W1, hW1⟩ : ∃ W1, W1 = w.alloc (.cells #[.int .i64 0, .int .i64 0, .int .i64 0, .int .i64 0, .bool false, .string ⟨#[]⟩] 25) := ⟨_, rfl⟩
  rw [← hW1]
  have HB : Hid (Boxed W1 R B) := Lib.hid ⟨by rw [hW1, hR]; exact Blk.new _ _ _, by omega⟩
  have h1 : Lx W1 B s r cm b := by rw [hW1]; exact h.keep (World.grownBy_alloc w _ none) (by simp)
  have HG : Hid (W.grownBy W1 (some B) ∧ W.heap.size ≤ R) := Lib.hid ⟨by rw [hW1]; exact gr_alloc g _, by rw [hR]; exact g.size⟩
  clear hW1 hR h g hlt
  have g1 := gr_refl W1 (some B)
  go_wp2_with (first | (go_at_call 56; refine (take_from (by assumption) (by assumption)).mono ?_; rintro e w' ⟨rfl, h', g'⟩; have bx := HB.out.at_ g'))
  refine bodyPost_ret (v := tokV 32 0 0 0 false (S [])) (by simp [results, Tryf.results65, go_sem, tokV, S, bx]) rfl ⟨rfl, Lx.cast (Lx.tok (by assumption) HB.out.ne) rfl rfl, gr_tok (gr_trans HG.out.1 g') HG.out.2⟩

theorem sign_93 {W w : World} {B : Nat} {s : ByteArray} {r : List Nat} {cm : Value} {b : Bool} (h : Lx w B s r cm b) (g : W.grownBy w (some B)) (hc : Pl.pk r 0 = 93) :
    Calls Tryf.prog 65 #[.pointer (some ⟨B, 0, none⟩)] w fun e w' => e = .returned (tokV 7 0 0 0 false (S [])) ∧ (Lx w' B s r.tail cm b ∧ W.grownBy w' (some B)) := by
  have hlt := h.blk.lt
  go_enter Tryf.func65, Tryf.ntmps65
  go_wp2_with fail
  obtain ⟨R, hR⟩ : ∃ R, R = w.heap.size := ⟨_, rfl⟩
  rw [← hR]
  obtain ⟨W1, hW1⟩ : ∃ W1, W1 = w.alloc (.cells #[.int .i64 0, .int .i64 0, .int .i64 0, .int .i64 0, .bool false, .string ⟨#[]⟩] 25) := ⟨_, rfl⟩
  rw [← hW1]
  have HB : Hid (Boxed W1 R B) := Lib.hid ⟨by rw [hW1, hR]; exact Blk.new _ _ _, by omega⟩
  have h1 : Lx W1 B s r cm b := by rw [hW1]; exact h.keep (World.grownBy_alloc w _ none) (by simp)
  have HG : Hid (W.grownBy W1 (some B) ∧ W.heap.size ≤ R) := Lib.hid ⟨by rw [hW1]; exact gr_alloc g _, by rw [hR]; exact g.size⟩
  clear hW1 hR h g hlt
  have g1 := gr_refl W1 (some B)
  go_wp2_with (first | (go_at_call 56; refine (take_from (by assumption) (by assumption)).mono ?_; rintro e w' ⟨rfl, h', g'⟩; have bx := HB.out.at_ g'))
  refine bodyPost_ret (v := tokV 7 0 0 0 false (S [])) (by simp [results, Tryf.results65, go_sem, tokV, S, bx]) rfl ⟨rfl, Lx.cast (Lx.tok (by assumption) HB.out.ne) rfl rfl, gr_tok (gr_trans HG.out.1 g') HG.out.2⟩

theorem sign_40 {W w : World} {B : Nat} {s : ByteArray} {r : List Nat} {cm : Value} {b : Bool} (h : Lx w B s r cm b) (g : W.grownBy w (some B)) (hc : Pl.pk r 0 = 40) :
    Calls Tryf.prog 65 #[.pointer (some ⟨B, 0, none⟩)] w fun e w' => e = .returned (tokV 33 0 0 0 false (S [])) ∧ (Lx w' B s r.tail cm b ∧ W.grownBy w' (some B)) := by
  have hlt := h.blk.lt
  go_enter Tryf.func65, Tryf.ntmps65
  go_wp2_with fail
  obtain ⟨R, hR⟩ : ∃ R, R = w.heap.size := ⟨_, rfl⟩
  rw [← hR]
  obtain ⟨W1, hW1⟩ : ∃ W1, W1 = w.alloc (.cells #[.int .i64 0, .int .i64 0, .int .i64 0, .int .i64 0, .bool false, .string ⟨#[]⟩] 25) := ⟨_, rfl⟩
  rw [← hW1]
  have HB : Hid (Boxed W1 R B) := Lib.hid ⟨by rw [hW1, hR]; exact Blk.new _ _ _, by omega⟩
  have h1 : Lx W1 B s r cm b := by rw [hW1]; exact h.keep (World.grownBy_alloc w _ none) (by simp)
  have HG : Hid (W.grownBy W1 (some B) ∧ W.heap.size ≤ R) := Lib.hid ⟨by rw [hW1]; exact gr_alloc g _, by rw [hR]; exact g.size⟩
  clear hW1 hR h g hlt
  have g1 := gr_refl W1 (some B)
  go_wp2_with (first | (go_at_call 56; refine (take_from (by assumption) (by assumption)).mono ?_; rintro e w' ⟨rfl, h', g'⟩; have bx := HB.out.at_ g'))
  refine bodyPost_ret (v := tokV 33 0 0 0 false (S [])) (by simp [results, Tryf.results65, go_sem, tokV, S, bx]) rfl ⟨rfl, Lx.cast (Lx.tok (by assumption) HB.out.ne) rfl rfl, gr_tok (gr_trans HG.out.1 g') HG.out.2⟩

theorem sign_41 {W w : World} {B : Nat} {s : ByteArray} {r : List Nat} {cm : Value} {b : Bool} (h : Lx w B s r cm b) (g : W.grownBy w (some B)) (hc : Pl.pk r 0 = 41) :
    Calls Tryf.prog 65 #[.pointer (some ⟨B, 0, none⟩)] w fun e w' => e = .returned (tokV 8 0 0 0 false (S [])) ∧ (Lx w' B s r.tail cm b ∧ W.grownBy w' (some B)) := by
  have hlt := h.blk.lt
  go_enter Tryf.func65, Tryf.ntmps65
  go_wp2_with fail
  obtain ⟨R, hR⟩ : ∃ R, R = w.heap.size := ⟨_, rfl⟩
  rw [← hR]
  obtain ⟨W1, hW1⟩ : ∃ W1, W1 = w.alloc (.cells #[.int .i64 0, .int .i64 0, .int .i64 0, .int .i64 0, .bool false, .string ⟨#[]⟩] 25) := ⟨_, rfl⟩
  rw [← hW1]
  have HB : Hid (Boxed W1 R B) := Lib.hid ⟨by rw [hW1, hR]; exact Blk.new _ _ _, by omega⟩
  have h1 : Lx W1 B s r cm b := by rw [hW1]; exact h.keep (World.grownBy_alloc w _ none) (by simp)
  have HG : Hid (W.grownBy W1 (some B) ∧ W.heap.size ≤ R) := Lib.hid ⟨by rw [hW1]; exact gr_alloc g _, by rw [hR]; exact g.size⟩
  clear hW1 hR h g hlt
  have g1 := gr_refl W1 (some B)
  go_wp2_with (first | (go_at_call 56; refine (take_from (by assumption) (by assumption)).mono ?_; rintro e w' ⟨rfl, h', g'⟩; have bx := HB.out.at_ g'))
  refine bodyPost_ret (v := tokV 8 0 0 0 false (S [])) (by simp [results, Tryf.results65, go_sem, tokV, S, bx]) rfl ⟨rfl, Lx.cast (Lx.tok (by assumption) HB.out.ne) rfl rfl, gr_tok (gr_trans HG.out.1 g') HG.out.2⟩

theorem sign_58 {W w : World} {B : Nat} {s : ByteArray} {r : List Nat} {cm : Value} {b : Bool} (h : Lx w B s r cm b) (g : W.grownBy w (some B)) (hc : Pl.pk r 0 = 58) :
    Calls Tryf.prog 65 #[.pointer (some ⟨B, 0, none⟩)] w fun e w' => e = .returned (tokV 9 0 0 0 false (S [])) ∧ (Lx w' B s r.tail cm b ∧ W.grownBy w' (some B)) := by
  have hlt := h.blk.lt
  go_enter Tryf.func65, Tryf.ntmps65
  go_wp2_with fail
  obtain ⟨R, hR⟩ : ∃ R, R = w.heap.size := ⟨_, rfl⟩
  rw [← hR]
  obtain ⟨W1, hW1⟩ : ∃ W1, W1 = w.alloc (.cells #[.int .i64 0, .int .i64 0, .int .i64 0, .int .i64 0, .bool false, .string ⟨#[]⟩] 25) := ⟨_, rfl⟩
  rw [← hW1]
  have HB : Hid (Boxed W1 R B) := Lib.hid ⟨by rw [hW1, hR]; exact Blk.new _ _ _, by omega⟩
  have h1 : Lx W1 B s r cm b := by rw [hW1]; exact h.keep (World.grownBy_alloc w _ none) (by simp)
  have HG : Hid (W.grownBy W1 (some B) ∧ W.heap.size ≤ R) := Lib.hid ⟨by rw [hW1]; exact gr_alloc g _, by rw [hR]; exact g.size⟩
  clear hW1 hR h g hlt
  have g1 := gr_refl W1 (some B)
  go_wp2_with (first | (go_at_call 56; refine (take_from (by assumption) (by assumption)).mono ?_; rintro e w' ⟨rfl, h', g'⟩; have bx := HB.out.at_ g'))
  refine bodyPost_ret (v := tokV 9 0 0 0 false (S [])) (by simp [results, Tryf.results65, go_sem, tokV, S, bx]) rfl ⟨rfl, Lx.cast (Lx.tok (by assumption) HB.out.ne) rfl rfl, gr_tok (gr_trans HG.out.1 g') HG.out.2⟩

theorem sign_59 {W w : World} {B : Nat} {s : ByteArray} {r : List Nat} {cm : Value} {b : Bool} (h : Lx w B s r cm b) (g : W.grownBy w (some B)) (hc : Pl.pk r 0 = 59) :
    Calls Tryf.prog 65 #[.pointer (some ⟨B, 0, none⟩)] w fun e w' => e = .returned (tokV 35 0 0 0 false (S [])) ∧ (Lx w' B s r.tail cm b ∧ W.grownBy w' (some B)) := by
  have hlt := h.blk.lt
  go_enter Tryf.func65, Tryf.ntmps65
  go_wp2_with fail
  obtain ⟨R, hR⟩ : ∃ R, R = w.heap.size := ⟨_, rfl⟩
  rw [← hR]
  obtain ⟨W1, hW1⟩ : ∃ W1, W1 = w.alloc (.cells #[.int .i64 0, .int .i64 0, .int .i64 0, .int .i64 0, .bool false, .string ⟨#[]⟩] 25) := ⟨_, rfl⟩
  rw [← hW1]
  have HB : Hid (Boxed W1 R B) := Lib.hid ⟨by rw [hW1, hR]; exact Blk.new _ _ _, by omega⟩
  have h1 : Lx W1 B s r cm b := by rw [hW1]; exact h.keep (World.grownBy_alloc w _ none) (by simp)
  have HG : Hid (W.grownBy W1 (some B) ∧ W.heap.size ≤ R) := Lib.hid ⟨by rw [hW1]; exact gr_alloc g _, by rw [hR]; exact g.size⟩
  clear hW1 hR h g hlt
  have g1 := gr_refl W1 (some B)
  go_wp2_with (first | (go_at_call 56; refine (take_from (by assumption) (by assumption)).mono ?_; rintro e w' ⟨rfl, h', g'⟩; have bx := HB.out.at_ g'))
  refine bodyPost_ret (v := tokV 35 0 0 0 false (S [])) (by simp [results, Tryf.results65, go_sem, tokV, S, bx]) rfl ⟨rfl, Lx.cast (Lx.tok (by assumption) HB.out.ne) rfl rfl, gr_tok (gr_trans HG.out.1 g') HG.out.2⟩

theorem sign_44 {W w : World} {B : Nat} {s : ByteArray} {r : List Nat} {cm : Value} {b : Bool} (h : Lx w B s r cm b) (g : W.grownBy w (some B)) (hc : Pl.pk r 0 = 44) :
    Calls Tryf.prog 65 #[.pointer (some ⟨B, 0, none⟩)] w fun e w' => e = .returned (tokV 10 0 0 0 false (S [])) ∧ (Lx w' B s r.tail cm b ∧ W.grownBy w' (some B)) := by
  have hlt := h.blk.lt
  go_enter Tryf.func65, Tryf.ntmps65
  go_wp2_with fail
  obtain ⟨R, hR⟩ : ∃ R, R = w.heap.size := ⟨_, rfl⟩
  rw [← hR]
  obtain ⟨W1, hW1⟩ : ∃ W1, W1 = w.alloc (.cells #[.int .i64 0, .int .i64 0, .int .i64 0, .int .i64 0, .bool false, .string ⟨#[]⟩] 25) := ⟨_, rfl⟩
  rw [← hW1]
  have HB : Hid (Boxed W1 R B) := Lib.hid ⟨by rw [hW1, hR]; exact Blk.new _ _ _, by omega⟩
  have h1 : Lx W1 B s r cm b := by rw [hW1]; exact h.keep (World.grownBy_alloc w _ none) (by simp)
  have HG : Hid (W.grownBy W1 (some B) ∧ W.heap.size ≤ R) := Lib.hid ⟨by rw [hW1]; exact gr_alloc g _, by rw [hR]; exact g.size⟩
  clear hW1 hR h g hlt
  have g1 := gr_refl W1 (some B)
  go_wp2_with (first | (go_at_call 56; refine (take_from (by assumption) (by assumption)).mono ?_; rintro e w' ⟨rfl, h', g'⟩; have bx := HB.out.at_ g'))
  refine bodyPost_ret (v := tokV 10 0 0 0 false (S [])) (by simp [results, Tryf.results65, go_sem, tokV, S, bx]) rfl ⟨rfl, Lx.cast (Lx.tok (by assumption) HB.out.ne) rfl rfl, gr_tok (gr_trans HG.out.1 g') HG.out.2⟩

theorem sign_38 {W w : World} {B : Nat} {s : ByteArray} {r : List Nat} {cm : Value} {b : Bool} (h : Lx w B s r cm b) (g : W.grownBy w (some B)) (hc : Pl.pk r 0 = 38) :
    Calls Tryf.prog 65 #[.pointer (some ⟨B, 0, none⟩)] w fun e w' => e = .returned (tokV 12 0 0 0 false (S [])) ∧ (Lx w' B s r.tail cm b ∧ W.grownBy w' (some B)) := by
  have hlt := h.blk.lt
  go_enter Tryf.func65, Tryf.ntmps65
  go_wp2_with fail
  obtain ⟨R, hR⟩ : ∃ R, R = w.heap.size := ⟨_, rfl⟩
  rw [← hR]
  obtain ⟨W1, hW1⟩ : ∃ W1, W1 = w.alloc (.cells #[.int .i64 0, .int .i64 0, .int .i64 0, .int .i64 0, .bool false, .string ⟨#[]⟩] 25) := ⟨_, rfl⟩
  rw [← hW1]
  have HB : Hid (Boxed W1 R B) := Lib.hid ⟨by rw [hW1, hR]; exact Blk.new _ _ _, by omega⟩
  have h1 : Lx W1 B s r cm b := by rw [hW1]; exact h.keep (World.grownBy_alloc w _ none) (by simp)
  have HG : Hid (W.grownBy W1 (some B) ∧ W.heap.size ≤ R) := Lib.hid ⟨by rw [hW1]; exact gr_alloc g _, by rw [hR]; exact g.size⟩
  clear hW1 hR h g hlt
  have g1 := gr_refl W1 (some B)
  go_wp2_with (first | (go_at_call 56; refine (take_from (by assumption) (by assumption)).mono ?_; rintro e w' ⟨rfl, h', g'⟩; have bx := HB.out.at_ g'))
  refine bodyPost_ret (v := tokV 12 0 0 0 false (S [])) (by simp [results, Tryf.results65, go_sem, tokV, S, bx]) rfl ⟨rfl, Lx.cast (Lx.tok (by assumption) HB.out.ne) rfl rfl, gr_tok (gr_trans HG.out.1 g') HG.out.2⟩

theorem sign_42 {W w : World} {B : Nat} {s : ByteArray} {r : List Nat} {cm : Value} {b : Bool} (h : Lx w B s r cm b) (g : W.grownBy w (some B)) (hc : Pl.pk r 0 = 42) :
    Calls Tryf.prog 65 #[.pointer (some ⟨B, 0, none⟩)] w fun e w' => e = .returned (tokV 13 0 0 0 false (S [])) ∧ (Lx w' B s r.tail cm b ∧ W.grownBy w' (some B)) := by
  have hlt := h.blk.lt
  go_enter Tryf.func65, Tryf.ntmps65
  go_wp2_with fail
  obtain ⟨R, hR⟩ : ∃ R, R = w.heap.size := ⟨_, rfl⟩
  rw [← hR]
  obtain ⟨W1, hW1⟩ : ∃ W1, W1 = w.alloc (.cells #[.int .i64 0, .int .i64 0, .int .i64 0, .int .i64 0, .bool false, .string ⟨#[]⟩] 25) := ⟨_, rfl⟩
  rw [← hW1]
  have HB : Hid (Boxed W1 R B) := Lib.hid ⟨by rw [hW1, hR]; exact Blk.new _ _ _, by omega⟩
  have h1 : Lx W1 B s r cm b := by rw [hW1]; exact h.keep (World.grownBy_alloc w _ none) (by simp)
  have HG : Hid (W.grownBy W1 (some B) ∧ W.heap.size ≤ R) := Lib.hid ⟨by rw [hW1]; exact gr_alloc g _, by rw [hR]; exact g.size⟩
  clear hW1 hR h g hlt
  have g1 := gr_refl W1 (some B)
  go_wp2_with (first | (go_at_call 56; refine (take_from (by assumption) (by assumption)).mono ?_; rintro e w' ⟨rfl, h', g'⟩; have bx := HB.out.at_ g'))
  refine bodyPost_ret (v := tokV 13 0 0 0 false (S [])) (by simp [results, Tryf.results65, go_sem, tokV, S, bx]) rfl ⟨rfl, Lx.cast (Lx.tok (by assumption) HB.out.ne) rfl rfl, gr_tok (gr_trans HG.out.1 g') HG.out.2⟩

theorem sign_124 {W w : World} {B : Nat} {s : ByteArray} {r : List Nat} {cm : Value} {b : Bool} (h : Lx w B s r cm b) (g : W.grownBy w (some B)) (hc : Pl.pk r 0 = 124) :
    Calls Tryf.prog 65 #[.pointer (some ⟨B, 0, none⟩)] w fun e w' => e = .returned (tokV 14 0 0 0 false (S [])) ∧ (Lx w' B s r.tail cm b ∧ W.grownBy w' (some B)) := by
  have hlt := h.blk.lt
  go_enter Tryf.func65, Tryf.ntmps65
  go_wp2_with fail
  obtain ⟨R, hR⟩ : ∃ R, R = w.heap.size := ⟨_, rfl⟩
  rw [← hR]
  obtain ⟨W1, hW1⟩ : ∃ W1, W1 = w.alloc (.cells #[.int .i64 0, .int .i64 0, .int .i64 0, .int .i64 0, .bool false, .string ⟨#[]⟩] 25) := ⟨_, rfl⟩
  rw [← hW1]
  have HB : Hid (Boxed W1 R B) := Lib.hid ⟨by rw [hW1, hR]; exact Blk.new _ _ _, by omega⟩
  have h1 : Lx W1 B s r cm b := by rw [hW1]; exact h.keep (World.grownBy_alloc w _ none) (by simp)
  have HG : Hid (W.grownBy W1 (some B) ∧ W.heap.size ≤ R) := Lib.hid ⟨by rw [hW1]; exact gr_alloc g _, by rw [hR]; exact g.size⟩
  clear hW1 hR h g hlt
  have g1 := gr_refl W1 (some B)
  go_wp2_with (first | (go_at_call 56; refine (take_from (by assumption) (by assumption)).mono ?_; rintro e w' ⟨rfl, h', g'⟩; have bx := HB.out.at_ g'))
  refine bodyPost_ret (v := tokV 14 0 0 0 false (S [])) (by simp [results, Tryf.results65, go_sem, tokV, S, bx]) rfl ⟨rfl, Lx.cast (Lx.tok (by assumption) HB.out.ne) rfl rfl, gr_tok (gr_trans HG.out.1 g') HG.out.2⟩

theorem sign_94 {W w : World} {B : Nat} {s : ByteArray} {r : List Nat} {cm : Value} {b : Bool} (h : Lx w B s r cm b) (g : W.grownBy w (some B)) (hc : Pl.pk r 0 = 94) :
    Calls Tryf.prog 65 #[.pointer (some ⟨B, 0, none⟩)] w fun e w' => e = .returned (tokV 15 0 0 0 false (S [])) ∧ (Lx w' B s r.tail cm b ∧ W.grownBy w' (some B)) := by
  have hlt := h.blk.lt
  go_enter Tryf.func65, Tryf.ntmps65
  go_wp2_with fail
  obtain ⟨R, hR⟩ : ∃ R, R = w.heap.size := ⟨_, rfl⟩
  rw [← hR]
  obtain ⟨W1, hW1⟩ : ∃ W1, W1 = w.alloc (.cells #[.int .i64 0, .int .i64 0, .int .i64 0, .int .i64 0, .bool false, .string ⟨#[]⟩] 25) := ⟨_, rfl⟩
  rw [← hW1]
  have HB : Hid (Boxed W1 R B) := Lib.hid ⟨by rw [hW1, hR]; exact Blk.new _ _ _, by omega⟩
  have h1 : Lx W1 B s r cm b := by rw [hW1]; exact h.keep (World.grownBy_alloc w _ none) (by simp)
  have HG : Hid (W.grownBy W1 (some B) ∧ W.heap.size ≤ R) := Lib.hid ⟨by rw [hW1]; exact gr_alloc g _, by rw [hR]; exact g.size⟩
  clear hW1 hR h g hlt
  have g1 := gr_refl W1 (some B)
  go_wp2_with (first | (go_at_call 56; refine (take_from (by assumption) (by assumption)).mono ?_; rintro e w' ⟨rfl, h', g'⟩; have bx := HB.out.at_ g'))
  refine bodyPost_ret (v := tokV 15 0 0 0 false (S [])) (by simp [results, Tryf.results65, go_sem, tokV, S, bx]) rfl ⟨rfl, Lx.cast (Lx.tok (by assumption) HB.out.ne) rfl rfl, gr_tok (gr_trans HG.out.1 g') HG.out.2⟩

theorem sign_36 {W w : World} {B : Nat} {s : ByteArray} {r : List Nat} {cm : Value} {b : Bool} (h : Lx w B s r cm b) (g : W.grownBy w (some B)) (hc : Pl.pk r 0 = 36) :
    Calls Tryf.prog 65 #[.pointer (some ⟨B, 0, none⟩)] w fun e w' => e = .returned (tokV 16 0 0 0 false (S [])) ∧ (Lx w' B s r.tail cm b ∧ W.grownBy w' (some B)) := by
  have hlt := h.blk.lt
  go_enter Tryf.func65, Tryf.ntmps65
  go_wp2_with fail
  obtain ⟨R, hR⟩ : ∃ R, R = w.heap.size := ⟨_, rfl⟩
  rw [← hR]
  obtain ⟨W1, hW1⟩ : ∃ W1, W1 = w.alloc (.cells #[.int .i64 0, .int .i64 0, .int .i64 0, .int .i64 0, .bool false, .string ⟨#[]⟩] 25) := ⟨_, rfl⟩
  rw [← hW1]
  have HB : Hid (Boxed W1 R B) := Lib.hid ⟨by rw [hW1, hR]; exact Blk.new _ _ _, by omega⟩
  have h1 : Lx W1 B s r cm b := by rw [hW1]; exact h.keep (World.grownBy_alloc w _ none) (by simp)
  have HG : Hid (W.grownBy W1 (some B) ∧ W.heap.size ≤ R) := Lib.hid ⟨by rw [hW1]; exact gr_alloc g _, by rw [hR]; exact g.size⟩
  clear hW1 hR h g hlt
  have g1 := gr_refl W1 (some B)
  go_wp2_with (first | (go_at_call 56; refine (take_from (by assumption) (by assumption)).mono ?_; rintro e w' ⟨rfl, h', g'⟩; have bx := HB.out.at_ g'))
  refine bodyPost_ret (v := tokV 16 0 0 0 false (S [])) (by simp [results, Tryf.results65, go_sem, tokV, S, bx]) rfl ⟨rfl, Lx.cast (Lx.tok (by assumption) HB.out.ne) rfl rfl, gr_tok (gr_trans HG.out.1 g') HG.out.2⟩

theorem sign_46 {W w : World} {B : Nat} {s : ByteArray} {r : List Nat} {cm : Value} {b : Bool} (h : Lx w B s r cm b) (g : W.grownBy w (some B)) (hc : Pl.pk r 0 = 46) :
    Calls Tryf.prog 65 #[.pointer (some ⟨B, 0, none⟩)] w fun e w' => e = .returned (tokV 17 0 0 0 false (S [])) ∧ (Lx w' B s r.tail cm b ∧ W.grownBy w' (some B)) := by
  have hlt := h.blk.lt
  go_enter Tryf.func65, Tryf.ntmps65
  go_wp2_with fail
  obtain ⟨R, hR⟩ : ∃ R, R = w.heap.size := ⟨_, rfl⟩
  rw [← hR]
  obtain ⟨W1, hW1⟩ : ∃ W1, W1 = w.alloc (.cells #[.int .i64 0, .int .i64 0, .int .i64 0, .int .i64 0, .bool false, .string ⟨#[]⟩] 25) := ⟨_, rfl⟩
  rw [← hW1]
  have HB : Hid (Boxed W1 R B) := Lib.hid ⟨by rw [hW1, hR]; exact Blk.new _ _ _, by omega⟩
  have h1 : Lx W1 B s r cm b := by rw [hW1]; exact h.keep (World.grownBy_alloc w _ none) (by simp)
  have HG : Hid (W.grownBy W1 (some B) ∧ W.heap.size ≤ R) := Lib.hid ⟨by rw [hW1]; exact gr_alloc g _, by rw [hR]; exact g.size⟩
  clear hW1 hR h g hlt
  have g1 := gr_refl W1 (some B)
  go_wp2_with (first | (go_at_call 56; refine (take_from (by assumption) (by assumption)).mono ?_; rintro e w' ⟨rfl, h', g'⟩; have bx := HB.out.at_ g'))
  refine bodyPost_ret (v := tokV 17 0 0 0 false (S [])) (by simp [results, Tryf.results65, go_sem, tokV, S, bx]) rfl ⟨rfl, Lx.cast (Lx.tok (by assumption) HB.out.ne) rfl rfl, gr_tok (gr_trans HG.out.1 g') HG.out.2⟩

theorem sign_61 {W w : World} {B : Nat} {s : ByteArray} {r : List Nat} {cm : Value} {b : Bool} (h : Lx w B s r cm b) (g : W.grownBy w (some B)) (hc : Pl.pk r 0 = 61) :
    Calls Tryf.prog 65 #[.pointer (some ⟨B, 0, none⟩)] w fun e w' => e = .returned (tokV 18 0 0 0 false (S [])) ∧ (Lx w' B s r.tail cm b ∧ W.grownBy w' (some B)) := by
  have hlt := h.blk.lt
  go_enter Tryf.func65, Tryf.ntmps65
  go_wp2_with fail
  obtain ⟨R, hR⟩ : ∃ R, R = w.heap.size := ⟨_, rfl⟩
  rw [← hR]
  obtain ⟨W1, hW1⟩ : ∃ W1, W1 = w.alloc (.cells #[.int .i64 0, .int .i64 0, .int .i64 0, .int .i64 0, .bool false, .string ⟨#[]⟩] 25) := ⟨_, rfl⟩
  rw [← hW1]
  have HB : Hid (Boxed W1 R B) := Lib.hid ⟨by rw [hW1, hR]; exact Blk.new _ _ _, by omega⟩
  have h1 : Lx W1 B s r cm b := by rw [hW1]; exact h.keep (World.grownBy_alloc w _ none) (by simp)
  have HG : Hid (W.grownBy W1 (some B) ∧ W.heap.size ≤ R) := Lib.hid ⟨by rw [hW1]; exact gr_alloc g _, by rw [hR]; exact g.size⟩
  clear hW1 hR h g hlt
  have g1 := gr_refl W1 (some B)
  go_wp2_with (first | (go_at_call 56; refine (take_from (by assumption) (by assumption)).mono ?_; rintro e w' ⟨rfl, h', g'⟩; have bx := HB.out.at_ g'))
  refine bodyPost_ret (v := tokV 18 0 0 0 false (S [])) (by simp [results, Tryf.results65, go_sem, tokV, S, bx]) rfl ⟨rfl, Lx.cast (Lx.tok (by assumption) HB.out.ne) rfl rfl, gr_tok (gr_trans HG.out.1 g') HG.out.2⟩

theorem sign_33 {W w : World} {B : Nat} {s : ByteArray} {r : List Nat} {cm : Value} {b : Bool} (h : Lx w B s r cm b) (g : W.grownBy w (some B)) (hc : Pl.pk r 0 = 33) :
    Calls Tryf.prog 65 #[.pointer (some ⟨B, 0, none⟩)] w fun e w' => e = .returned (tokV 19 0 0 0 false (S [])) ∧ (Lx w' B s r.tail cm b ∧ W.grownBy w' (some B)) := by
  have hlt := h.blk.lt
  go_enter Tryf.func65, Tryf.ntmps65
  go_wp2_with fail
  obtain ⟨R, hR⟩ : ∃ R, R = w.heap.size := ⟨_, rfl⟩
  rw [← hR]
  obtain ⟨W1, hW1⟩ : ∃ W1, W1 = w.alloc (.cells #[.int .i64 0, .int .i64 0, .int .i64 0, .int .i64 0, .bool false, .string ⟨#[]⟩] 25) := ⟨_, rfl⟩
  rw [← hW1]
  have HB : Hid (Boxed W1 R B) := Lib.hid ⟨by rw [hW1, hR]; exact Blk.new _ _ _, by omega⟩
  have h1 : Lx W1 B s r cm b := by rw [hW1]; exact h.keep (World.grownBy_alloc w _ none) (by simp)
  have HG : Hid (W.grownBy W1 (some B) ∧ W.heap.size ≤ R) := Lib.hid ⟨by rw [hW1]; exact gr_alloc g _, by rw [hR]; exact g.size⟩
  clear hW1 hR h g hlt
  have g1 := gr_refl W1 (some B)
  go_wp2_with (first | (go_at_call 56; refine (take_from (by assumption) (by assumption)).mono ?_; rintro e w' ⟨rfl, h', g'⟩; have bx := HB.out.at_ g'))
  refine bodyPost_ret (v := tokV 19 0 0 0 false (S [])) (by simp [results, Tryf.results65, go_sem, tokV, S, bx]) rfl ⟨rfl, Lx.cast (Lx.tok (by assumption) HB.out.ne) rfl rfl, gr_tok (gr_trans HG.out.1 g') HG.out.2⟩

theorem sign_62 {W w : World} {B : Nat} {s : ByteArray} {r : List Nat} {cm : Value} {b : Bool} (h : Lx w B s r cm b) (g : W.grownBy w (some B)) (hc : Pl.pk r 0 = 62) :
    Calls Tryf.prog 65 #[.pointer (some ⟨B, 0, none⟩)] w fun e w' => e = .returned (tokV 20 0 0 0 false (S [])) ∧ (Lx w' B s r.tail cm b ∧ W.grownBy w' (some B)) := by
  have hlt := h.blk.lt
  go_enter Tryf.func65, Tryf.ntmps65
  go_wp2_with fail
  obtain ⟨R, hR⟩ : ∃ R, R = w.heap.size := ⟨_, rfl⟩
  rw [← hR]
  obtain ⟨W1, hW1⟩ : ∃ W1, W1 = w.alloc (.cells #[.int .i64 0, .int .i64 0, .int .i64 0, .int .i64 0, .bool false, .string ⟨#[]⟩] 25) := ⟨_, rfl⟩
  rw [← hW1]
  have HB : Hid (Boxed W1 R B) := Lib.hid ⟨by rw [hW1, hR]; exact Blk.new _ _ _, by omega⟩
  have h1 : Lx W1 B s r cm b := by rw [hW1]; exact h.keep (World.grownBy_alloc w _ none) (by simp)
  have HG : Hid (W.grownBy W1 (some B) ∧ W.heap.size ≤ R) := Lib.hid ⟨by rw [hW1]; exact gr_alloc g _, by rw [hR]; exact g.size⟩
  clear hW1 hR h g hlt
  have g1 := gr_refl W1 (some B)
  go_wp2_with (first | (go_at_call 56; refine (take_from (by assumption) (by assumption)).mono ?_; rintro e w' ⟨rfl, h', g'⟩; have bx := HB.out.at_ g'))
  refine bodyPost_ret (v := tokV 20 0 0 0 false (S [])) (by simp [results, Tryf.results65, go_sem, tokV, S, bx]) rfl ⟨rfl, Lx.cast (Lx.tok (by assumption) HB.out.ne) rfl rfl, gr_tok (gr_trans HG.out.1 g') HG.out.2⟩

theorem sign_60 {W w : World} {B : Nat} {s : ByteArray} {r : List Nat} {cm : Value} {b : Bool} (h : Lx w B s r cm b) (g : W.grownBy w (some B)) (hc : Pl.pk r 0 = 60) :
    Calls Tryf.prog 65 #[.pointer (some ⟨B, 0, none⟩)] w fun e w' => e = .returned (tokV 21 0 0 0 false (S [])) ∧ (Lx w' B s r.tail cm b ∧ W.grownBy w' (some B)) := by
  have hlt := h.blk.lt
  go_enter Tryf.func65, Tryf.ntmps65
  go_wp2_with fail
  obtain ⟨R, hR⟩ : ∃ R, R = w.heap.size := ⟨_, rfl⟩
  rw [← hR]
  obtain ⟨W1, hW1⟩ : ∃ W1, W1 = w.alloc (.cells #[.int .i64 0, .int .i64 0, .int .i64 0, .int .i64 0, .bool false, .string ⟨#[]⟩] 25) := ⟨_, rfl⟩
  rw [← hW1]
  have HB : Hid (Boxed W1 R B) := Lib.hid ⟨by rw [hW1, hR]; exact Blk.new _ _ _, by omega⟩
  have h1 : Lx W1 B s r cm b := by rw [hW1]; exact h.keep (World.grownBy_alloc w _ none) (by simp)
  have HG : Hid (W.grownBy W1 (some B) ∧ W.heap.size ≤ R) := Lib.hid ⟨by rw [hW1]; exact gr_alloc g _, by rw [hR]; exact g.size⟩
  clear hW1 hR h g hlt
  have g1 := gr_refl W1 (some B)
  go_wp2_with (first | (go_at_call 56; refine (take_from (by assumption) (by assumption)).mono ?_; rintro e w' ⟨rfl, h', g'⟩; have bx := HB.out.at_ g'))
  refine bodyPost_ret (v := tokV 21 0 0 0 false (S [])) (by simp [results, Tryf.results65, go_sem, tokV, S, bx]) rfl ⟨rfl, Lx.cast (Lx.tok (by assumption) HB.out.ne) rfl rfl, gr_tok (gr_trans HG.out.1 g') HG.out.2⟩

theorem sign_45 {W w : World} {B : Nat} {s : ByteArray} {r : List Nat} {cm : Value} {b : Bool} (h : Lx w B s r cm b) (g : W.grownBy w (some B)) (hc : Pl.pk r 0 = 45) :
    Calls Tryf.prog 65 #[.pointer (some ⟨B, 0, none⟩)] w fun e w' => e = .returned (tokV 22 0 0 0 false (S [])) ∧ (Lx w' B s r.tail cm b ∧ W.grownBy w' (some B)) := by
  have hlt := h.blk.lt
  go_enter Tryf.func65, Tryf.ntmps65
  go_wp2_with fail
  obtain ⟨R, hR⟩ : ∃ R, R = w.heap.size := ⟨_, rfl⟩
  rw [← hR]
  obtain ⟨W1, hW1⟩ : ∃ W1, W1 = w.alloc (.cells #[.int .i64 0, .int .i64 0, .int .i64 0, .int .i64 0, .bool false, .string ⟨#[]⟩] 25) := ⟨_, rfl⟩
  rw [← hW1]
  have HB : Hid (Boxed W1 R B) := Lib.hid ⟨by rw [hW1, hR]; exact Blk.new _ _ _, by omega⟩
  have h1 : Lx W1 B s r cm b := by rw [hW1]; exact h.keep (World.grownBy_alloc w _ none) (by simp)
  have HG : Hid (W.grownBy W1 (some B) ∧ W.heap.size ≤ R) := Lib.hid ⟨by rw [hW1]; exact gr_alloc g _, by rw [hR]; exact g.size⟩
  clear hW1 hR h g hlt
  have g1 := gr_refl W1 (some B)
  go_wp2_with (first | (go_at_call 56; refine (take_from (by assumption) (by assumption)).mono ?_; rintro e w' ⟨rfl, h', g'⟩; have bx := HB.out.at_ g'))
  refine bodyPost_ret (v := tokV 22 0 0 0 false (S [])) (by simp [results, Tryf.results65, go_sem, tokV, S, bx]) rfl ⟨rfl, Lx.cast (Lx.tok (by assumption) HB.out.ne) rfl rfl, gr_tok (gr_trans HG.out.1 g') HG.out.2⟩

theorem sign_43 {W w : World} {B : Nat} {s : ByteArray} {r : List Nat} {cm : Value} {b : Bool} (h : Lx w B s r cm b) (g : W.grownBy w (some B)) (hc : Pl.pk r 0 = 43) :
    Calls Tryf.prog 65 #[.pointer (some ⟨B, 0, none⟩)] w fun e w' => e = .returned (tokV 23 0 0 0 false (S [])) ∧ (Lx w' B s r.tail cm b ∧ W.grownBy w' (some B)) := by
  have hlt := h.blk.lt
  go_enter Tryf.func65, Tryf.ntmps65
  go_wp2_with fail
  obtain ⟨R, hR⟩ : ∃ R, R = w.heap.size := ⟨_, rfl⟩
  rw [← hR]
  obtain ⟨W1, hW1⟩ : ∃ W1, W1 = w.alloc (.cells #[.int .i64 0, .int .i64 0, .int .i64 0, .int .i64 0, .bool false, .string ⟨#[]⟩] 25) := ⟨_, rfl⟩
  rw [← hW1]
  have HB : Hid (Boxed W1 R B) := Lib.hid ⟨by rw [hW1, hR]; exact Blk.new _ _ _, by omega⟩
  have h1 : Lx W1 B s r cm b := by rw [hW1]; exact h.keep (World.grownBy_alloc w _ none) (by simp)
  have HG : Hid (W.grownBy W1 (some B) ∧ W.heap.size ≤ R) := Lib.hid ⟨by rw [hW1]; exact gr_alloc g _, by rw [hR]; exact g.size⟩
  clear hW1 hR h g hlt
  have g1 := gr_refl W1 (some B)
  go_wp2_with (first | (go_at_call 56; refine (take_from (by assumption) (by assumption)).mono ?_; rintro e w' ⟨rfl, h', g'⟩; have bx := HB.out.at_ g'))
  refine bodyPost_ret (v := tokV 23 0 0 0 false (S [])) (by simp [results, Tryf.results65, go_sem, tokV, S, bx]) rfl ⟨rfl, Lx.cast (Lx.tok (by assumption) HB.out.ne) rfl rfl, gr_tok (gr_trans HG.out.1 g') HG.out.2⟩

theorem sign_47 {W w : World} {B : Nat} {s : ByteArray} {r : List Nat} {cm : Value} {b : Bool} (h : Lx w B s r cm b) (g : W.grownBy w (some B)) (hc : Pl.pk r 0 = 47) :
    Calls Tryf.prog 65 #[.pointer (some ⟨B, 0, none⟩)] w fun e w' => e = .returned (tokV 24 0 0 0 false (S [])) ∧ (Lx w' B s r.tail cm b ∧ W.grownBy w' (some B)) := by
  have hlt := h.blk.lt
  go_enter Tryf.func65, Tryf.ntmps65
  go_wp2_with fail
  obtain ⟨R, hR⟩ : ∃ R, R = w.heap.size := ⟨_, rfl⟩
  rw [← hR]
  obtain ⟨W1, hW1⟩ : ∃ W1, W1 = w.alloc (.cells #[.int .i64 0, .int .i64 0, .int .i64 0, .int .i64 0, .bool false, .string ⟨#[]⟩] 25) := ⟨_, rfl⟩
  rw [← hW1]
  have HB : Hid (Boxed W1 R B) := Lib.hid ⟨by rw [hW1, hR]; exact Blk.new _ _ _, by omega⟩
  have h1 : Lx W1 B s r cm b := by rw [hW1]; exact h.keep (World.grownBy_alloc w _ none) (by simp)
  have HG : Hid (W.grownBy W1 (some B) ∧ W.heap.size ≤ R) := Lib.hid ⟨by rw [hW1]; exact gr_alloc g _, by rw [hR]; exact g.size⟩
  clear hW1 hR h g hlt
  have g1 := gr_refl W1 (some B)
  go_wp2_with (first | (go_at_call 56; refine (take_from (by assumption) (by assumption)).mono ?_; rintro e w' ⟨rfl, h', g'⟩; have bx := HB.out.at_ g'))
  refine bodyPost_ret (v := tokV 24 0 0 0 false (S [])) (by simp [results, Tryf.results65, go_sem, tokV, S, bx]) rfl ⟨rfl, Lx.cast (Lx.tok (by assumption) HB.out.ne) rfl rfl, gr_tok (gr_trans HG.out.1 g') HG.out.2⟩

theorem sign_126 {W w : World} {B : Nat} {s : ByteArray} {r : List Nat} {cm : Value} {b : Bool} (h : Lx w B s r cm b) (g : W.grownBy w (some B)) (hc : Pl.pk r 0 = 126) :
    Calls Tryf.prog 65 #[.pointer (some ⟨B, 0, none⟩)] w fun e w' => e = .returned (tokV 25 0 0 0 false (S [])) ∧ (Lx w' B s r.tail cm b ∧ W.grownBy w' (some B)) := by
  have hlt := h.blk.lt
  go_enter Tryf.func65, Tryf.ntmps65
  go_wp2_with fail
  obtain ⟨R, hR⟩ : ∃ R, R = w.heap.size := ⟨_, rfl⟩
  rw [← hR]
  obtain ⟨W1, hW1⟩ : ∃ W1, W1 = w.alloc (.cells #[.int .i64 0, .int .i64 0, .int .i64 0, .int .i64 0, .bool false, .string ⟨#[]⟩] 25) := ⟨_, rfl⟩
  rw [← hW1]
  have HB : Hid (Boxed W1 R B) := Lib.hid ⟨by rw [hW1, hR]; exact Blk.new _ _ _, by omega⟩
  have h1 : Lx W1 B s r cm b := by rw [hW1]; exact h.keep (World.grownBy_alloc w _ none) (by simp)
  have HG : Hid (W.grownBy W1 (some B) ∧ W.heap.size ≤ R) := Lib.hid ⟨by rw [hW1]; exact gr_alloc g _, by rw [hR]; exact g.size⟩
  clear hW1 hR h g hlt
  have g1 := gr_refl W1 (some B)
  go_wp2_with (first | (go_at_call 56; refine (take_from (by assumption) (by assumption)).mono ?_; rintro e w' ⟨rfl, h', g'⟩; have bx := HB.out.at_ g'))
  refine bodyPost_ret (v := tokV 25 0 0 0 false (S [])) (by simp [results, Tryf.results65, go_sem, tokV, S, bx]) rfl ⟨rfl, Lx.cast (Lx.tok (by assumption) HB.out.ne) rfl rfl, gr_tok (gr_trans HG.out.1 g') HG.out.2⟩

set_option maxHeartbeats 1000000 in
theorem sign_other {W w : World} {B : Nat} {s : ByteArray} {r : List Nat} {cm : Value} {b : Bool} (h : Lx w B s r cm b) (g : W.grownBy w (some B)) (h123 : (Pl.pk r 0 == 123) = false) (h125 : (Pl.pk r 0 == 125) = false) (h91 : (Pl.pk r 0 == 91) = false) (h93 : (Pl.pk r 0 == 93) = false) (h40 : (Pl.pk r 0 == 40) = false) (h41 : (Pl.pk r 0 == 41) = false) (h58 : (Pl.pk r 0 == 58) = false) (h59 : (Pl.pk r 0 == 59) = false) (h44 : (Pl.pk r 0 == 44) = false) (h38 : (Pl.pk r 0 == 38) = false) (h42 : (Pl.pk r 0 == 42) = false) (h124 : (Pl.pk r 0 == 124) = false) (h94 : (Pl.pk r 0 == 94) = false) (h36 : (Pl.pk r 0 == 36) = false) (h46 : (Pl.pk r 0 == 46) = false) (h61 : (Pl.pk r 0 == 61) = false) (h33 : (Pl.pk r 0 == 33) = false) (h62 : (Pl.pk r 0 == 62) = false) (h60 : (Pl.pk r 0 == 60) = false) (h45 : (Pl.pk r 0 == 45) = false) (h43 : (Pl.pk r 0 == 43) = false) (h47 : (Pl.pk r 0 == 47) = false) (h126 : (Pl.pk r 0 == 126) = false) :
    Calls Tryf.prog 65 #[.pointer (some ⟨B, 0, none⟩)] w fun e w' => e = .returned (tokV 11 0 0 0 false (S [])) ∧ (Lx w' B s r.tail cm b ∧ W.grownBy w' (some B)) := by
  have hlt := h.blk.lt
  go_enter Tryf.func65, Tryf.ntmps65
  go_wp2_with fail
  obtain ⟨R, hR⟩ : ∃ R, R = w.heap.size := ⟨_, rfl⟩
  rw [← hR]
  obtain ⟨W1, hW1⟩ : ∃ W1, W1 = w.alloc (.cells #[.int .i64 0, .int .i64 0, .int .i64 0, .int .i64 0, .bool false, .string ⟨#[]⟩] 25) := ⟨_, rfl⟩
  rw [← hW1]
  have HB : Hid (Boxed W1 R B) := Lib.hid ⟨by rw [hW1, hR]; exact Blk.new _ _ _, by omega⟩
  have h1 : Lx W1 B s r cm b := by rw [hW1]; exact h.keep (World.grownBy_alloc w _ none) (by simp)
  have HG : Hid (W.grownBy W1 (some B) ∧ W.heap.size ≤ R) := Lib.hid ⟨by rw [hW1]; exact gr_alloc g _, by rw [hR]; exact g.size⟩
  clear hW1 hR h g hlt
  have g1 := gr_refl W1 (some B)
  go_wp2_with (first | (go_at_call 56; refine (take_from (by assumption) (by assumption)).mono ?_; rintro e w' ⟨rfl, h', g'⟩; have bx := HB.out.at_ g'))
  refine bodyPost_ret (v := tokV 11 0 0 0 false (S [])) (by simp [results, Tryf.results65, go_sem, tokV, S, bx]) rfl ⟨rfl, Lx.cast (Lx.tok (by assumption) HB.out.ne) rfl rfl, gr_tok (gr_trans HG.out.1 g') HG.out.2⟩

theorem sign_from {W w : World} {B : Nat} {s : ByteArray} {r : List Nat} {cm : Value} {b : Bool} (h : Lx w B s r cm b) (g : W.grownBy w (some B)) :
    Calls Tryf.prog 65 #[.pointer (some ⟨B, 0, none⟩)] w fun e w' => e = .returned (tokV (Pl.signK (Pl.pk r 0) : Int) 0 0 0 false (S [])) ∧ (Lx w' B s r.tail cm b ∧ W.grownBy w' (some B)) := by
  by_cases h123 : Pl.pk r 0 = 123
  · rw [h123]; exact sign_123 h g h123
  by_cases h125 : Pl.pk r 0 = 125
  · rw [h125]; exact sign_125 h g h125
  by_cases h91 : Pl.pk r 0 = 91
  · rw [h91]; exact sign_91 h g h91
  by_cases h93 : Pl.pk r 0 = 93
  · rw [h93]; exact sign_93 h g h93
  by_cases h40 : Pl.pk r 0 = 40
  · rw [h40]; exact sign_40 h g h40
  by_cases h41 : Pl.pk r 0 = 41
  · rw [h41]; exact sign_41 h g h41
  by_cases h58 : Pl.pk r 0 = 58
  · rw [h58]; exact sign_58 h g h58
  by_cases h59 : Pl.pk r 0 = 59
  · rw [h59]; exact sign_59 h g h59
  by_cases h44 : Pl.pk r 0 = 44
  · rw [h44]; exact sign_44 h g h44
  by_cases h38 : Pl.pk r 0 = 38
  · rw [h38]; exact sign_38 h g h38
  by_cases h42 : Pl.pk r 0 = 42
  · rw [h42]; exact sign_42 h g h42
  by_cases h124 : Pl.pk r 0 = 124
  · rw [h124]; exact sign_124 h g h124
  by_cases h94 : Pl.pk r 0 = 94
  · rw [h94]; exact sign_94 h g h94
  by_cases h36 : Pl.pk r 0 = 36
  · rw [h36]; exact sign_36 h g h36
  by_cases h46 : Pl.pk r 0 = 46
  · rw [h46]; exact sign_46 h g h46
  by_cases h61 : Pl.pk r 0 = 61
  · rw [h61]; exact sign_61 h g h61
  by_cases h33 : Pl.pk r 0 = 33
  · rw [h33]; exact sign_33 h g h33
  by_cases h62 : Pl.pk r 0 = 62
  · rw [h62]; exact sign_62 h g h62
  by_cases h60 : Pl.pk r 0 = 60
  · rw [h60]; exact sign_60 h g h60
  by_cases h45 : Pl.pk r 0 = 45
  · rw [h45]; exact sign_45 h g h45
  by_cases h43 : Pl.pk r 0 = 43
  · rw [h43]; exact sign_43 h g h43
  by_cases h47 : Pl.pk r 0 = 47
  · rw [h47]; exact sign_47 h g h47
  by_cases h126 : Pl.pk r 0 = 126
  · rw [h126]; exact sign_126 h g h126
  have e : Pl.signK (Pl.pk r 0) = 11 := by
    unfold Pl.signK
    rw [if_neg h123, if_neg h125, if_neg h91, if_neg h93, if_neg h40, if_neg h41, if_neg h58, if_neg h59, if_neg h44, if_neg h38, if_neg h42, if_neg h124, if_neg h94, if_neg h36, if_neg h46, if_neg h61, if_neg h33, if_neg h62, if_neg h60, if_neg h45, if_neg h43, if_neg h47, if_neg h126]
  rw [e]
  exact sign_other h g (by simp [h123]) (by simp [h125]) (by simp [h91]) (by simp [h93]) (by simp [h40]) (by simp [h41]) (by simp [h58]) (by simp [h59]) (by simp [h44]) (by simp [h38]) (by simp [h42]) (by simp [h124]) (by simp [h94]) (by simp [h36]) (by simp [h46]) (by simp [h61]) (by simp [h33]) (by simp [h62]) (by simp [h60]) (by simp [h45]) (by simp [h43]) (by simp [h47]) (by simp [h126])

end Go.Proofs.YtmomkkakjkkakaaFmt
