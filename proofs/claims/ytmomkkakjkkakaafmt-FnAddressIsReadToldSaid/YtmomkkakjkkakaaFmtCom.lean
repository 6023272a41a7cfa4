/-
  WALK of the reader's comment: comments are taken, and told.
-/
import Derived.Test.YtmomkkakjkkakaaFmtKp
import Derived.Deep.AppendLies
import Derived.Deep.RegionLaw
set_option linter.unusedVariables false
set_option linter.unusedSimpArgs false
set_option maxRecDepth 100000
namespace Go.Proofs.YtmomkkakjkkakaaFmt
open Go.RowKit

theorem infoPiece : (Tryf.prog.info? 97).map (fun i => (i.zero, i.size, i.bytes)) = some (some (.agg #[.int .i64 0, .int .i64 0]), 2, 16) := by kernel_rfl
/-- what comment leaves -/
structure ComOut (B : Nat) (s : ByteArray) (w : World) (r : List Nat) (m : Nat) (b : Bool) (e : Ending) (w' : World) : Prop where
  ret : e = .returned (.tuple #[])
  lx : ∃ cm xs, Lx w' B s r cm b ∧ w'.ownsRow (B + 1) 97 2 cm m xs
  kp : Kp 97 B w w'

theorem skipC_no {r : List Nat} (h0 : r ≠ []) (h : ¬ (Pl.pk r 0 = 42 ∧ Pl.pk r 1 = 47)) : Pl.skipC r = Pl.skipC r.tail := by
  cases r with
  | nil => exact absurd rfl h0
  | cons c t =>
    rw [Pl.pk_cons, Pl.pk_cons1] at h
    rw [Pl.skipC, if_neg (by intro e; exact h ⟨by rw [e.1]; rfl, e.2⟩)]
    rfl
theorem skipC_yes {r : List Nat} (h : Pl.pk r 0 = 42 ∧ Pl.pk r 1 = 47) : Pl.skipC r = some (r.drop 2) := by
  cases r with
  | nil => simp [Pl.pk] at h
  | cons c t =>
    rw [Pl.pk_cons, Pl.pk_cons1] at h
    rw [Pl.skipC, if_pos ⟨by omega, h.2⟩]
    cases t <;> rfl
theorem Lx.told {w : World} {B : Nat} {s : ByteArray} {r : List Nat} {cm : Value} {b : Bool} (h : Lx w B s r cm b) (v : Value) : Lx (w.setCell ⟨B, 2, none⟩ v) B s r v b :=
  ⟨h.blk.put 2 _, h.txt, h.ok, h.le, h.small⟩
theorem news_two (w : World) (x y : Value) (T : TypeId) (j : Nat) (u : Value) (hu : [x, y][j]? = some u) : ((w.alloc (.cells #[x, y] T)).drew).cell? ((⟨w.heap.size, 0, none⟩ : Addr).add j) = some u := by
  have hb := (Blk.new w T #[x, y]).drew.cell j
  have e : (⟨w.heap.size, 0, none⟩ : Addr).add j = ⟨w.heap.size, j, none⟩ := by cases j <;> simp [Addr.add]
  rw [e, hb]
  match j, hu with
  | 0, hu => simpa using hu
  | 1, hu => simpa using hu
  | (j + 2), hu => simp at hu
/-- two signs further -/
theorem Lx.two {w w' : World} {B : Nat} {s : ByteArray} {r : List Nat} {cm : Value} {b : Bool} (h : Lx w B s r cm b) {c d : Nat} {t : List Nat} (hr : r = c :: d :: t) (hc : c < 128) (hd : d < 128)
    (hb : w' = w.setCell ⟨B, 1, none⟩ (.int .i64 ((Pl.posN s.size r : Int) + 2))) : Lx w' B s (r.drop 2) cm b ∧ w.grownBy w' (some B) ∧ (Pl.posN s.size r : Int) + 2 ≤ s.size := by
  subst hr
  have e1 : (Pl.enc c).length = 1 := by rw [enc1 hc]; rfl
  have e2 : (Pl.enc d).length = 1 := by rw [enc1 hd]; rfl
  have hle := h.le
  rw [Pl.encs_cons, Pl.encs_cons, List.length_append, List.length_append, e1, e2] at hle
  have hp : (Pl.posN s.size (c :: d :: t) : Int) + 2 = (Pl.posN s.size t : Nat) := by
    unfold Pl.posN
    rw [Pl.encs_cons, Pl.encs_cons, List.length_append, List.length_append, e1, e2]
    omega
  have hb2 := h.blk.put 1 (.int .i64 ((Pl.posN s.size (c :: d :: t) : Int) + 2))
  rw [← hb] at hb2
  refine ⟨⟨?_, ?_, fun x hx => h.ok x (List.mem_of_mem_drop hx), drop_le h.le 2, h.small⟩, ?_, ?_⟩
  · rw [hp] at hb2
    exact hb2
  · exact drop_txt h.le h.txt 2
  · rw [hb]; exact gr_put (gr_refl _ _) _ _
  · rw [hp]
    have := posN_le s.size t
    omega

set_option maxHeartbeats 4000000 in
theorem comment_any {w : World} {B : Nat} {s : ByteArray} {r : List Nat} {cm : Value} {b : Bool} {m : Nat} {xs : List Value} (h : Lx w B s r cm b) (ho : w.ownsRow (B + 1) 97 2 cm m xs) (hm : m + r.length ≤ 1099511627776) :
    Calls Tryf.prog 43 #[.pointer (some ⟨B, 0, none⟩)] w fun e w' => ComOut B s w (Pl.comF r).1 (m + (Pl.comF r).2.1) (b || (Pl.comF r).2.2) e w' := by
  obtain ⟨i0, hi, hz0, hz1, hz2⟩ := info_parts infoPiece
  have HL := Lib.hid h
  have HO := Lib.hid ho
  clear h ho
  go_enter Tryf.func43, Tryf.ntmps43
  go_wp2_with fail
  go_loopg [] (r.length + 1) (fun k wr => ∃ (r' : List Nat) (cv : Value) (b' : Bool) (m' : Nat) (ys : List Value), k = r'.length + 1 ∧ Lx wr B s r' cv b' ∧ wr.ownsRow (B + 1) 97 2 cv m' ys ∧ Kp 97 B w wr ∧ m' + r'.length ≤ 1099511627776 ∧
    Hid ((Pl.comF r).1 = (Pl.comF r').1 ∧ m + (Pl.comF r).2.1 = m' + (Pl.comF r').2.1 ∧ (b || (Pl.comF r).2.2) = (b' || (Pl.comF r').2.2)))
  case atStart => exact ⟨r, cm, b, m, xs, rfl, HL.out, HO.out, Kp.refl _ _ _, hm, Lib.hid ⟨rfl, rfl, rfl⟩⟩
  case round =>
    obtain ⟨r', cv, b', m', ys, rfl, h, ho, hk, hm', HE⟩ := hrel
    have hBw := h.blk.lt
    by_cases hc : Pl.pk r' 0 = 47 ∧ Pl.pk r' 1 = 42
    · have k1 : (Pl.pk r' 0 == 47) = true := by simp [hc.1]
      have k2 : (Pl.pk r' 1 == 42) = true := by simp [hc.2]
      obtain ⟨t, ht⟩ : ∃ t, r' = 47 :: 42 :: t := by
        cases r' with
        | nil => simp [Pl.pk] at hc
        | cons a r' =>
          cases r' with
          | nil => simp [Pl.pk] at hc
          | cons a2 r' =>
            rw [Pl.pk_cons, Pl.pk_cons1, Pl.pk_cons] at hc
            exact ⟨r', by rw [show a = 47 by omega, show a2 = 42 by omega]⟩
      have c1 := h.cell1
      have f1 := h.free 1
      have hpl := posN_le s.size r'
      have hsm := h.small
      have HC := Lib.hid hc
      have HT := Lib.hid ht
      have HH := Lib.hid h
      have H2 := fun w' => h.two (w' := w') ht (by omega) (by omega)
      have HH2 := Lib.hid H2
      clear hc ht H2
      go_wp2_with (go_at_call 55; refine (peek_at (by assumption) _ (by omega) (by omega)).mono ?_; rintro e w' ⟨rfl, rfl⟩)
      obtain ⟨hl2, hg2, hp2⟩ := HH2.out _ rfl
      have ho2 := ho.kept hg2 (own_ne ho)
      have hk2 := hk.trans (Kp.block hg2 (Nat.le_of_lt hBw))
      have hlen : (r'.drop 2).length + 2 = r'.length := by rw [HT.out]; rfl
      have HE2 := Lib.hid (And.intro hl2 (And.intro ho2 hk2))
      have HLEN := Lib.hid hlen
      clear hl2 hg2 ho2 hk2 hlen h ho hk c1 f1
      go_loopg [] (r'.drop 2).length (fun k w2 => ∃ r'' : List Nat, k = r''.length ∧ Lx w2 B s r'' cv b' ∧ w2.ownsRow (B + 1) 97 2 cv m' ys ∧ Kp 97 B w w2 ∧ r''.length + 2 ≤ r'.length ∧ Hid (Pl.skipC (r'.drop 2) = Pl.skipC r''))
      case atStart => exact ⟨r'.drop 2, rfl, HE2.out.1, HE2.out.2.1, HE2.out.2.2, by have := HLEN.out; omega, Lib.hid rfl⟩
      case round =>
        obtain ⟨r'', rfl, h, ho, hk, hlr, HS⟩ := hrel
        have hBw := h.blk.lt
        by_cases hx : Pl.pk r'' 0 = 42 ∧ Pl.pk r'' 1 = 47
        · obtain ⟨t, ht⟩ : ∃ t, r'' = 42 :: 47 :: t := by
            cases r'' with
            | nil => simp [Pl.pk] at hx
            | cons a r'' =>
              cases r'' with
              | nil => simp [Pl.pk] at hx
              | cons a2 r'' =>
                rw [Pl.pk_cons, Pl.pk_cons1, Pl.pk_cons] at hx
                exact ⟨r'', by rw [show a = 42 by omega, show a2 = 47 by omega]⟩
          have k3 : (Pl.pk r'' 0 == 42) = true := by simp [hx.1]
          have k4 : (Pl.pk r'' 1 == 47) = true := by simp [hx.2]
          have c1 := h.cell1
          have c2 := h.cell2
          have f1 := h.free 1
          have f2 := h.free 2
          have hpl2 := posN_le s.size r''
          have HX := Lib.hid (skipC_yes hx)
          have H2 := fun w' => h.two (w' := w') ht (by omega) (by omega)
          have HT2 := Lib.hid ht
          have HH2 := Lib.hid H2
          clear hx ht H2
          go_wp2_with (go_at_call 55; refine (peek_at (by assumption) _ (by omega) (by omega)).mono ?_; rintro e w' ⟨rfl, rfl⟩)
          obtain ⟨hl2, hg2, hp2⟩ := HH2.out _ rfl
          have ho2 := ho.kept hg2 (own_ne ho)
          have hk2 := hk.trans (Kp.block hg2 (Nat.le_of_lt hBw))
          clear h ho hk c1 c2 f1 f2 hg2 HH2
          generalize wr.setCell ⟨B, 1, none⟩ (.int .i64 ((Pl.posN s.size r'' : Int) + 2)) = wX at hl2 ho2 hk2 ⊢
          have c1 := hl2.cell1
          have c2 := hl2.cell2
          have f2 := hl2.free 2
          have hBX := hl2.blk.lt
          have HOW := Lib.hid (fun o => (ho2.alloc o : ((wX.alloc o).drew).ownsRow (B + 1) 97 2 cv m' ys))
          have HK := Lib.hid (fun (o : Obj) (w3 : World) (g : ((wX.alloc o).drew).grownBy w3 cv.ownBlock) => (hl2.keep (gr_drew (gr_alloc (gr_refl wX none) o)) (by simp)).keep g (own_ne' ho2))
          have HN := Lib.hid (fun x y => news_two wX x y 97)
          have HC2 := Lib.hid (Pl.comF_more HC.out (HS.out.trans HX.out))
          go_region_law (refine step_append_lies _ rfl (.tmp 63) (.tmp 70) 43 rfl (B + 1) 97 i0 _ 2 16 Tryf.underlying43 hi hz0 hz1 hz2 rfl (by decide) cv m' ys (by simp [Act.eval, Act.put]) (HOW.out _) ⟨wX.heap.size, 0, none⟩ 1 1 [.int .i64 (Pl.posN s.size r'), .int .i64 (Pl.posN s.size (r''.drop 2))] (by simp [Act.eval, Act.put]) rfl (HN.out _ _) (by simp [Value.oneCell']) (by omega) (by unfold maxLen; omega) (by omega) (by simp; omega) _ rfl ?_; intro g cap w3 hown3 hgrow3 hat3 hlt3; have hl3 := HK.out _ _ hgrow3; have c3 := hl3.cell2; have f3 := hl3.free 2)
          all_goals
            go_wp2_with fail
            go_roundg ((r''.drop 2).length + 1)
            case measure => simp only [List.length_drop]; omega
            case rel =>
              refine ⟨r''.drop 2, _, b', m' + 1, _, rfl, hl3.told _, (hown3.kept (gr_put (gr_refl _ _) 2 _) (own_ne hown3)), ?_, ?_, Lib.hid ⟨?_, ?_, ?_⟩⟩
              · exact (hk2.trans (((Kp.refl _ _ wX).alloc (Nat.le_of_lt hBX) _).drew.trans (Kp.own (HOW.out _) hgrow3 (by simp; omega)))).put 2 _
              · simp only [List.length_drop]; omega
              · rw [HE.out.1, HC2.out]
              · rw [HE.out.2.1, HC2.out]; simp only []; omega
              · rw [HE.out.2.2, HC2.out]
        · by_cases h0 : r'' = []
          · have k3 : (Pl.pk r'' 0 == 42) = false := by rw [h0]; decide
            have k5 : (Pl.pk r'' 0 == -1) = true := by rw [h0]; decide
            have HX := Lib.hid (show Pl.skipC r'' = none by rw [h0]; rfl)
            have HT4 := Lib.hid (show r''.tail = [] by rw [h0]; rfl)
            clear hx h0
            go_wp2_with (first | (go_at_call 55; refine (peek_at (by assumption) _ (by omega) (by omega)).mono ?_; rintro e w' ⟨rfl, rfl⟩) | (go_at_call 56; refine (take_from (by assumption) (gr_refl _ _)).mono ?_; rintro e w' ⟨rfl, h', g'⟩; have c3' := h'.cell3; have f3' := h'.free 3))
            have ho2 := ho.kept g' (own_ne ho)
            have hk2 := hk.trans (Kp.block g' (Nat.le_of_lt hBw))
            have hBw' := h'.blk.lt
            have hl2 := h'.opened
            have ho3 := ho2.kept (gr_put (gr_refl w' (some B)) 3 (.bool true)) (own_ne ho2)
            have hk3 := hk2.put 3 (.bool true)
            clear h ho hk g' ho2 hk2 c3' f3' h'
            generalize w'.setCell ⟨B, 3, none⟩ (.bool true) = wX at hl2 ho3 hk3 ⊢
            have c1 := hl2.cell1
            have c2 := hl2.cell2
            have f2 := hl2.free 2
            have hBX := hl2.blk.lt
            have HOW := Lib.hid (fun o => (ho3.alloc o : ((wX.alloc o).drew).ownsRow (B + 1) 97 2 cv m' ys))
            have HK := Lib.hid (fun (o : Obj) (w3 : World) (g : ((wX.alloc o).drew).grownBy w3 cv.ownBlock) => (hl2.keep (gr_drew (gr_alloc (gr_refl wX none) o)) (by simp)).keep g (own_ne' ho3))
            have HN := Lib.hid (fun x y => news_two wX x y 97)
            have HC2 := Lib.hid (Pl.comF_open HC.out (HS.out.trans HX.out))
            go_region_law (refine step_append_lies _ rfl (.tmp 41) (.tmp 48) 43 rfl (B + 1) 97 i0 _ 2 16 Tryf.underlying43 hi hz0 hz1 hz2 rfl (by decide) cv m' ys (by simp [Act.eval, Act.put]) (HOW.out _) ⟨wX.heap.size, 0, none⟩ 1 1 [.int .i64 (Pl.posN s.size r'), .int .i64 (Pl.posN s.size r''.tail)] (by simp [Act.eval, Act.put]) rfl (HN.out _ _) (by simp [Value.oneCell']) (by omega) (by unfold maxLen; omega) (by omega) (by simp; omega) _ rfl ?_; intro g cap w3 hown3 hgrow3 hat3 hlt3; have hl3 := HK.out _ _ hgrow3; have c3 := hl3.cell2; have f3 := hl3.free 2)
            all_goals
              go_wp2_with fail
              refine bodyPost_ret (results_none rfl _ _ _) rfl ?_
              refine ⟨rfl, ⟨.slice (some ⟨g, 0, none⟩) (m' + 1) cap, ys ++ [.int .i64 (Pl.posN s.size r'), .int .i64 (Pl.posN s.size r''.tail)], ?_, ?_⟩, ?_⟩
              · rw [HE.out.1, HE.out.2.2, HC2.out]
                simp only [Bool.or_true]
                exact (hl3.told _).cast HT4.out rfl
              · rw [HE.out.2.1, HC2.out]
                exact (hown3.kept (gr_put (gr_refl _ _) 2 _) (own_ne hown3))
              · exact (hk3.trans (((Kp.refl _ _ wX).alloc (Nat.le_of_lt hBX) _).drew.trans (Kp.own (HOW.out _) hgrow3 (by simp; omega)))).put 2 _
          · have HNE := Lib.hid h0
            clear h0
            by_cases e1 : Pl.pk r'' 0 = 42
            · have k3 : (Pl.pk r'' 0 == 42) = true := by simp [e1]
              have k4 : (Pl.pk r'' 1 == 47) = false := by simp; intro e2; exact hx ⟨e1, e2⟩
              have k5 : (Pl.pk r'' 0 == -1) = false := by simp; exact fun e => HNE.out (Pl.pk_end e)
              have HS2 := Lib.hid (skipC_no HNE.out hx)
              have HT3 := Lib.hid (Pl.tail_lt HNE.out)
              clear hx e1
              go_wp2_with (first | (go_at_call 55; refine (peek_at (by assumption) _ (by omega) (by omega)).mono ?_; rintro e w' ⟨rfl, rfl⟩) | (go_at_call 56; refine (take_from (by assumption) (gr_refl _ _)).mono ?_; rintro e w' ⟨rfl, h', g'⟩; have c3' := h'.cell3; have f3' := h'.free 3))
              go_roundg r''.tail.length
              case measure => exact HT3.out
              case rel => exact ⟨r''.tail, rfl, h', ho.kept g' (own_ne ho), hk.trans (Kp.block g' (Nat.le_of_lt hBw)), by have := HT3.out; omega, Lib.hid (HS.out.trans HS2.out)⟩
            · have k3 : (Pl.pk r'' 0 == 42) = false := by simp [e1]
              clear e1
              have k5 : (Pl.pk r'' 0 == -1) = false := by simp; exact fun e => HNE.out (Pl.pk_end e)
              have HS2 := Lib.hid (skipC_no HNE.out hx)
              have HT3 := Lib.hid (Pl.tail_lt HNE.out)
              clear hx
              go_wp2_with (first | (go_at_call 55; refine (peek_at (by assumption) _ (by omega) (by omega)).mono ?_; rintro e w' ⟨rfl, rfl⟩) | (go_at_call 56; refine (take_from (by assumption) (gr_refl _ _)).mono ?_; rintro e w' ⟨rfl, h', g'⟩; have c3' := h'.cell3; have f3' := h'.free 3))
              go_roundg r''.tail.length
              case measure => exact HT3.out
              case rel => exact ⟨r''.tail, rfl, h', ho.kept g' (own_ne ho), hk.trans (Kp.block g' (Nat.le_of_lt hBw)), by have := HT3.out; omega, Lib.hid (HS.out.trans HS2.out)⟩
    · have HC := Lib.hid (Pl.comF_no hc)
      by_cases e1 : Pl.pk r' 0 = 47
      · have k1 : (Pl.pk r' 0 == 47) = true := by simp [e1]
        have k2 : (Pl.pk r' 1 == 42) = false := by simp; intro e2; exact hc ⟨e1, e2⟩
        clear e1 hc
        go_wp2_with (go_at_call 55; refine (peek_at (by assumption) _ (by omega) (by omega)).mono ?_; rintro e w' ⟨rfl, rfl⟩)
        go_end0
        refine ⟨rfl, ⟨cv, ys, ?_, ?_⟩, hk⟩
        · rw [HE.out.1, HE.out.2.2, HC.out]; simpa using h
        · rw [HE.out.2.1, HC.out]; exact ho
      · have k1 : (Pl.pk r' 0 == 47) = false := by simp [e1]
        clear e1 hc
        go_wp2_with (go_at_call 55; refine (peek_at (by assumption) _ (by omega) (by omega)).mono ?_; rintro e w' ⟨rfl, rfl⟩)
        go_end0
        refine ⟨rfl, ⟨cv, ys, ?_, ?_⟩, hk⟩
        · rw [HE.out.1, HE.out.2.2, HC.out]; simpa using h
        · rw [HE.out.2.1, HC.out]; exact ho
end Go.Proofs.YtmomkkakjkkakaaFmt
