/-
  WALK of FnDecoded: true at every text.
-/
import Derived.Test.YtmomkkakjkkakaaDoorOnly
import Derived.Test.YtmomkkakjkkakaaDoorDecP
import Derived.Test.YtmomkkakjkkakaaDoorFnE
import Derived.Deep.RegionWith
set_option linter.unusedVariables false
set_option linter.unusedSimpArgs false
set_option maxRecDepth 100000
namespace Go.Proofs.YtmomkkakjkkakaaDoor
open Go.RowKit

theorem only_any (x : ByteArray) (hs : x.size ≤ 1099511627776) : ∃ o : Option Pl.Tok, (∀ w, Calls Tryd.prog 5 #[.string x] w fun e w' => OnlyOut o w e w') ∧ ∀ t, o = some t → ∃ r, PlainR x r ∧ Pl.toksF r = ([t], 0, false) := by
  by_cases hp : ∃ r, PlainR x r
  · obtain ⟨r, hr⟩ := hp
    exact ⟨onlyT r, fun w => only_plain hs hr, fun t ht => ⟨r, hr, onlyT_some ht⟩⟩
  · exact ⟨none, fun w => only_bad hs hp, fun t ht => by cases ht⟩
/-- what only gives, its token's kind and text named -/
structure OnlyIs (k : Int) (tx : List UInt8) (b : Bool) (w : World) (e : Ending) (w' : World) : Prop where
  out : ∃ (a c d : Int) (i : Bool), e = .returned (.tuple #[.agg #[.int .i64 k, .int .i64 a, .int .i64 c, .int .i64 d, .bool i, .string (S tx)], .bool b])
  below : Below w.heap.size w w'
theorem OnlyOut.some_is {t : Pl.Tok} {w : World} {e : Ending} {w' : World} (h : OnlyOut (some t) w e w') : OnlyIs t.kind t.text true w e w' := ⟨⟨t.start, t.stop, t.unit, t.id, h.out⟩, h.below⟩
theorem OnlyOut.none_is {w : World} {e : Ending} {w' : World} (h : OnlyOut none w e w') : OnlyIs 0 [] false w e w' := ⟨⟨0, 0, 0, false, h.out⟩, h.below⟩

/-- the code points of a text between two quotes -/
theorem plain_q {s : ByteArray} {r : List Nat} (h : PlainR (⟨#[34]⟩ ++ s ++ ⟨#[34]⟩) r) : ∃ ri, r = 34 :: (ri ++ [34]) ∧ s = S (Pl.encs ri) ∧ ∀ c ∈ ri, Pl.Ok c := by
  have e : (⟨#[34]⟩ ++ s ++ ⟨#[34]⟩ : ByteArray).data.toList = 34 :: (s.data.toList ++ [34]) := by simp [ByteArray.data_append]
  have h1 := h.txt
  rw [e] at h1
  have last : ∀ (A : List UInt8) (t : List Nat), (∀ c ∈ t, Pl.Ok c) → A ++ [34] = Pl.encs t → ∃ t', t = t' ++ [34] ∧ A = Pl.encs t' := by
    intro A t hok ht
    rcases List.eq_nil_or_concat t with rfl | ⟨t', c, rfl⟩
    · simp [Pl.encs] at ht
    · simp only [List.concat_eq_append] at hok ht ⊢
      rw [Pl.encs_append] at ht
      have hco := hok c (by simp)
      have hlow : c = 34 := by
        have hb : (A ++ [34]).getLast? = some 34 := by simp
        rw [ht, Pl.encs_cons, Pl.encs_nil, List.append_nil] at hb
        have key : ∀ n : Nat, n < 256 → UInt8.ofNat n = 34 → n = 34 := by
          intro n hn e
          have e := congrArg UInt8.toNat e
          simp at e; omega
        obtain ⟨hs, h0⟩ := hco
        unfold Pl.Sc at hs
        rcases Nat.lt_or_ge c 128 with g1 | g1
        · rw [enc1 g1] at hb
          simp only [List.getLast?_append, List.getLast?_singleton, Option.some_or, Option.some.injEq] at hb
          exact key c (by omega) hb
        rcases Nat.lt_or_ge c 2048 with g2 | g2
        · rw [enc2 g1 g2] at hb
          simp only [List.getLast?_append, List.getLast?_cons_cons, List.getLast?_singleton, Option.some_or, Option.some.injEq] at hb
          have := key _ (by omega) hb; omega
        rcases Nat.lt_or_ge c 65536 with g3 | g3
        · rw [enc3 (by omega)] at hb
          simp only [List.getLast?_append, List.getLast?_cons_cons, List.getLast?_singleton, Option.some_or, Option.some.injEq] at hb
          have := key _ (by omega) hb; omega
        · rw [enc4 g3 (by omega)] at hb
          simp only [List.getLast?_append, List.getLast?_cons_cons, List.getLast?_singleton, Option.some_or, Option.some.injEq] at hb
          have := key _ (by omega) hb; omega
      subst hlow
      rw [Pl.encs_cons, Pl.encs_nil, List.append_nil, show Pl.enc 34 = [34] from enc1 (by omega)] at ht
      exact ⟨t', rfl, List.append_cancel_right ht⟩
  cases r with
  | nil => simp [Pl.encs] at h1
  | cons c t =>
    have hc := h.ok c (by simp)
    have a1 : runeV (⟨#[34]⟩ ++ s ++ ⟨#[34]⟩) 0 = ((c : Int), ((Pl.enc c).length : Int)) := runeV_cp (T := Pl.encs t) hc.1 (by rw [List.drop_zero, h.txt, Pl.encs_cons])
    have a2 : runeV (⟨#[34]⟩ ++ s ++ ⟨#[34]⟩) 0 = (((34 : Nat) : Int), ((Pl.enc 34).length : Int)) := runeV_cp (c := 34) (T := s.data.toList ++ [34]) (.inl (by omega)) (by rw [List.drop_zero, e, enc1 (by omega)]; rfl)
    rw [a1] at a2
    have hcc : c = 34 := by have := congrArg Prod.fst a2; simp only at this; omega
    subst hcc
    rw [Pl.encs_cons, show Pl.enc 34 = [34] from enc1 (by omega)] at h1
    have h2 : s.data.toList ++ [34] = Pl.encs t := by simpa using h1
    obtain ⟨t', rfl, h3⟩ := last _ t (fun x hx => h.ok x (by simp [hx])) h2
    exact ⟨t', rfl, by rw [← h3, S_of], fun x hx => h.ok x (by simp [hx])⟩

set_option maxHeartbeats 2000000 in
theorem fnD_00 {s : ByteArray} {w : World} (hs : s.size ≤ 2147483647) (hT : Tabs w)
    (h1 : ∀ w, Calls Tryd.prog 5 #[.string (⟨#[34]⟩ ++ s ++ ⟨#[34]⟩)] w fun e w' => OnlyIs 0 [] false w e w') (h2 : ∀ w, Calls Tryd.prog 5 #[.string s] w fun e w' => OnlyIs 0 [] false w e w') :
    Calls Tryd.prog 3 #[.string s] w fun e w' => e = .returned (.bool true) ∧ Below w.heap.size w w' := by
  have H1 := Lib.hid h1
  have H2 := Lib.hid h2
  have HT := Lib.hid hT
  clear h1 h2 hT
  go_enter Tryd.func3, Tryd.ntmps3
  go_wp2_with (go_at_call 5; (with_reducible refine (H1.out _).mono ?_); rintro e w1 ⟨⟨a1, c1, d1, i1, rfl⟩, hb1⟩; have B1 := Lib.hid hb1; clear hb1)
  go_quiet (fail)
  all_goals
    go_wp2_with (go_at_call 5; (with_reducible refine (H2.out _).mono ?_); rintro e w3 ⟨⟨a2, c2, d2, i2, rfl⟩, hb3⟩; have hbk3 : Blk w3 w1.heap.size 23 #[.int .i64 0, .int .i64 a1, .int .i64 c1, .int .i64 d1, .bool i1, .string (S [])] := (hb3.block _ (by simp)).trans ((Blk.new w1 _ _).drewN _); have y0 := hbk3.cell 0; have g0 := hbk3.frozen 0; have y1 := hbk3.cell 1; have g1 := hbk3.frozen 1; have y2 := hbk3.cell 2; have g2 := hbk3.frozen 2; have y3 := hbk3.cell 3; have g3 := hbk3.frozen 3; have y4 := hbk3.cell 4; have g4 := hbk3.frozen 4; have y5 := hbk3.cell 5; have g5 := hbk3.frozen 5; have HBK3 := Lib.hid hbk3; have B3 := Lib.hid hb3; clear hb3 hbk3; simp only [List.getElem?_toArray, List.getElem?_cons_zero, List.getElem?_cons_succ] at y0 y1 y2 y3 y4 y5)
    have hbk4 : Blk ((((((w3.setCell ⟨w1.heap.size, 0, none⟩ (.int .i64 0)).setCell ⟨w1.heap.size, 1, none⟩ (.int .i64 a2)).setCell ⟨w1.heap.size, 2, none⟩ (.int .i64 c2)).setCell ⟨w1.heap.size, 3, none⟩ (.int .i64 d2)).setCell ⟨w1.heap.size, 4, none⟩ (.bool i2)).setCell ⟨w1.heap.size, 5, none⟩ (.string (S []))) w1.heap.size 23 #[.int .i64 0, .int .i64 a2, .int .i64 c2, .int .i64 d2, .bool i2, .string (S [])] := ((((((HBK3.out.put 0 (.int .i64 0)).put 1 (.int .i64 a2)).put 2 (.int .i64 c2)).put 3 (.int .i64 d2)).put 4 (.bool i2)).put 5 (.string (S [])))
    have K3 : Below w.heap.size w w3 := (below_drewN (B1.out.alloc B1.out.size _) nq).trans (B3.out.mono (by have := B1.out.size; simp; omega))
    have hbl4 : Below w.heap.size w ((((((w3.setCell ⟨w1.heap.size, 0, none⟩ (.int .i64 0)).setCell ⟨w1.heap.size, 1, none⟩ (.int .i64 a2)).setCell ⟨w1.heap.size, 2, none⟩ (.int .i64 c2)).setCell ⟨w1.heap.size, 3, none⟩ (.int .i64 d2)).setCell ⟨w1.heap.size, 4, none⟩ (.bool i2)).setCell ⟨w1.heap.size, 5, none⟩ (.string (S []))) := ((((((K3.setCell (by exact B1.out.size) _).setCell (by exact B1.out.size) _).setCell (by exact B1.out.size) _).setCell (by exact B1.out.size) _).setCell (by exact B1.out.size) _).setCell (by exact B1.out.size) _)
    have BK4 := Lib.hid hbk4
    have BL4 := Lib.hid hbl4
    clear hbk4 hbl4 K3 y0 g0 y1 g1 y2 g2 y3 g3 y4 g4 y5 g5
    generalize ((((((w3.setCell ⟨w1.heap.size, 0, none⟩ (.int .i64 0)).setCell ⟨w1.heap.size, 1, none⟩ (.int .i64 a2)).setCell ⟨w1.heap.size, 2, none⟩ (.int .i64 c2)).setCell ⟨w1.heap.size, 3, none⟩ (.int .i64 d2)).setCell ⟨w1.heap.size, 4, none⟩ (.bool i2)).setCell ⟨w1.heap.size, 5, none⟩ (.string (S []))) = W4 at BK4 BL4 ⊢
    have q0 := BK4.out.cell 0
    have q5 := BK4.out.cell 5
    simp only [List.getElem?_toArray, List.getElem?_cons_zero, List.getElem?_cons_succ] at q0 q5
    go_quiet (fail)
    go_wp2_with fail
    go_ret
    exact ⟨ret_bool (by simp), below_drewN BL4.out _⟩
set_option maxHeartbeats 2000000 in
theorem fnD_01 {s : ByteArray} {w : World} {k2 : Int} {t2 : List UInt8} (hk2 : (k2 != 29) = true) (hs : s.size ≤ 2147483647) (hT : Tabs w)
    (h1 : ∀ w, Calls Tryd.prog 5 #[.string (⟨#[34]⟩ ++ s ++ ⟨#[34]⟩)] w fun e w' => OnlyIs 0 [] false w e w') (h2 : ∀ w, Calls Tryd.prog 5 #[.string s] w fun e w' => OnlyIs k2 t2 true w e w') :
    Calls Tryd.prog 3 #[.string s] w fun e w' => e = .returned (.bool true) ∧ Below w.heap.size w w' := by
  have H1 := Lib.hid h1
  have H2 := Lib.hid h2
  have HT := Lib.hid hT
  clear h1 h2 hT
  go_enter Tryd.func3, Tryd.ntmps3
  go_wp2_with (go_at_call 5; (with_reducible refine (H1.out _).mono ?_); rintro e w1 ⟨⟨a1, c1, d1, i1, rfl⟩, hb1⟩; have B1 := Lib.hid hb1; clear hb1)
  go_quiet (fail)
  all_goals
    go_wp2_with (go_at_call 5; (with_reducible refine (H2.out _).mono ?_); rintro e w3 ⟨⟨a2, c2, d2, i2, rfl⟩, hb3⟩; have hbk3 : Blk w3 w1.heap.size 23 #[.int .i64 0, .int .i64 a1, .int .i64 c1, .int .i64 d1, .bool i1, .string (S [])] := (hb3.block _ (by simp)).trans ((Blk.new w1 _ _).drewN _); have y0 := hbk3.cell 0; have g0 := hbk3.frozen 0; have y1 := hbk3.cell 1; have g1 := hbk3.frozen 1; have y2 := hbk3.cell 2; have g2 := hbk3.frozen 2; have y3 := hbk3.cell 3; have g3 := hbk3.frozen 3; have y4 := hbk3.cell 4; have g4 := hbk3.frozen 4; have y5 := hbk3.cell 5; have g5 := hbk3.frozen 5; have HBK3 := Lib.hid hbk3; have B3 := Lib.hid hb3; clear hb3 hbk3; simp only [List.getElem?_toArray, List.getElem?_cons_zero, List.getElem?_cons_succ] at y0 y1 y2 y3 y4 y5)
    have hbk4 : Blk ((((((w3.setCell ⟨w1.heap.size, 0, none⟩ (.int .i64 k2)).setCell ⟨w1.heap.size, 1, none⟩ (.int .i64 a2)).setCell ⟨w1.heap.size, 2, none⟩ (.int .i64 c2)).setCell ⟨w1.heap.size, 3, none⟩ (.int .i64 d2)).setCell ⟨w1.heap.size, 4, none⟩ (.bool i2)).setCell ⟨w1.heap.size, 5, none⟩ (.string (S t2))) w1.heap.size 23 #[.int .i64 k2, .int .i64 a2, .int .i64 c2, .int .i64 d2, .bool i2, .string (S t2)] := ((((((HBK3.out.put 0 (.int .i64 k2)).put 1 (.int .i64 a2)).put 2 (.int .i64 c2)).put 3 (.int .i64 d2)).put 4 (.bool i2)).put 5 (.string (S t2)))
    have K3 : Below w.heap.size w w3 := (below_drewN (B1.out.alloc B1.out.size _) nq).trans (B3.out.mono (by have := B1.out.size; simp; omega))
    have hbl4 : Below w.heap.size w ((((((w3.setCell ⟨w1.heap.size, 0, none⟩ (.int .i64 k2)).setCell ⟨w1.heap.size, 1, none⟩ (.int .i64 a2)).setCell ⟨w1.heap.size, 2, none⟩ (.int .i64 c2)).setCell ⟨w1.heap.size, 3, none⟩ (.int .i64 d2)).setCell ⟨w1.heap.size, 4, none⟩ (.bool i2)).setCell ⟨w1.heap.size, 5, none⟩ (.string (S t2))) := ((((((K3.setCell (by exact B1.out.size) _).setCell (by exact B1.out.size) _).setCell (by exact B1.out.size) _).setCell (by exact B1.out.size) _).setCell (by exact B1.out.size) _).setCell (by exact B1.out.size) _)
    have BK4 := Lib.hid hbk4
    have BL4 := Lib.hid hbl4
    clear hbk4 hbl4 K3 y0 g0 y1 g1 y2 g2 y3 g3 y4 g4 y5 g5
    generalize ((((((w3.setCell ⟨w1.heap.size, 0, none⟩ (.int .i64 k2)).setCell ⟨w1.heap.size, 1, none⟩ (.int .i64 a2)).setCell ⟨w1.heap.size, 2, none⟩ (.int .i64 c2)).setCell ⟨w1.heap.size, 3, none⟩ (.int .i64 d2)).setCell ⟨w1.heap.size, 4, none⟩ (.bool i2)).setCell ⟨w1.heap.size, 5, none⟩ (.string (S t2))) = W4 at BK4 BL4 ⊢
    have q0 := BK4.out.cell 0
    have q5 := BK4.out.cell 5
    simp only [List.getElem?_toArray, List.getElem?_cons_zero, List.getElem?_cons_succ] at q0 q5
    go_quiet (fail)
    go_wp2_with fail
    go_ret
    exact ⟨ret_bool (by simp), below_drewN BL4.out _⟩
set_option maxHeartbeats 2000000 in
theorem fnD_02 {s : ByteArray} {w : World} {ri : List Nat} (hri : Str s ri) (hok : ∀ c ∈ ri, Pl.Ok c) (hs : s.size ≤ 2147483647) (hT : Tabs w)
    (h1 : ∀ w, Calls Tryd.prog 5 #[.string (⟨#[34]⟩ ++ s ++ ⟨#[34]⟩)] w fun e w' => OnlyIs 0 [] false w e w') (h2 : ∀ w, Calls Tryd.prog 5 #[.string s] w fun e w' => OnlyIs 29 (Pl.encs (Pl.decF ri)) true w e w') :
    Calls Tryd.prog 3 #[.string s] w fun e w' => e = .returned (.bool true) ∧ Below w.heap.size w w' := by
  have H1 := Lib.hid h1
  have H2 := Lib.hid h2
  have HT := Lib.hid hT
  clear h1 h2 hT
  have HD := Lib.hid (fun (wx : World) (hx : Tabs wx) => (by have := dec_any ri wx hok (by rw [← hri.size]; omega) hx; rw [← hri.eq] at this; exact this : Calls Tryd.prog 6 #[.string s] wx fun e w' => e = .returned (.string (S (Pl.encs (Pl.decF ri)))) ∧ Below wx.heap.size wx w'))
  clear hri hok
  go_enter Tryd.func3, Tryd.ntmps3
  go_wp2_with (go_at_call 5; (with_reducible refine (H1.out _).mono ?_); rintro e w1 ⟨⟨a1, c1, d1, i1, rfl⟩, hb1⟩; have B1 := Lib.hid hb1; clear hb1)
  go_quiet (fail)
  all_goals
    go_wp2_with (go_at_call 5; (with_reducible refine (H2.out _).mono ?_); rintro e w3 ⟨⟨a2, c2, d2, i2, rfl⟩, hb3⟩; have hbk3 : Blk w3 w1.heap.size 23 #[.int .i64 0, .int .i64 a1, .int .i64 c1, .int .i64 d1, .bool i1, .string (S [])] := (hb3.block _ (by simp)).trans ((Blk.new w1 _ _).drewN _); have y0 := hbk3.cell 0; have g0 := hbk3.frozen 0; have y1 := hbk3.cell 1; have g1 := hbk3.frozen 1; have y2 := hbk3.cell 2; have g2 := hbk3.frozen 2; have y3 := hbk3.cell 3; have g3 := hbk3.frozen 3; have y4 := hbk3.cell 4; have g4 := hbk3.frozen 4; have y5 := hbk3.cell 5; have g5 := hbk3.frozen 5; have HBK3 := Lib.hid hbk3; have B3 := Lib.hid hb3; clear hb3 hbk3; simp only [List.getElem?_toArray, List.getElem?_cons_zero, List.getElem?_cons_succ] at y0 y1 y2 y3 y4 y5)
    have hbk4 : Blk ((((((w3.setCell ⟨w1.heap.size, 0, none⟩ (.int .i64 29)).setCell ⟨w1.heap.size, 1, none⟩ (.int .i64 a2)).setCell ⟨w1.heap.size, 2, none⟩ (.int .i64 c2)).setCell ⟨w1.heap.size, 3, none⟩ (.int .i64 d2)).setCell ⟨w1.heap.size, 4, none⟩ (.bool i2)).setCell ⟨w1.heap.size, 5, none⟩ (.string (S (Pl.encs (Pl.decF ri))))) w1.heap.size 23 #[.int .i64 29, .int .i64 a2, .int .i64 c2, .int .i64 d2, .bool i2, .string (S (Pl.encs (Pl.decF ri)))] := ((((((HBK3.out.put 0 (.int .i64 29)).put 1 (.int .i64 a2)).put 2 (.int .i64 c2)).put 3 (.int .i64 d2)).put 4 (.bool i2)).put 5 (.string (S (Pl.encs (Pl.decF ri)))))
    have K3 : Below w.heap.size w w3 := (below_drewN (B1.out.alloc B1.out.size _) nq).trans (B3.out.mono (by have := B1.out.size; simp; omega))
    have hbl4 : Below w.heap.size w ((((((w3.setCell ⟨w1.heap.size, 0, none⟩ (.int .i64 29)).setCell ⟨w1.heap.size, 1, none⟩ (.int .i64 a2)).setCell ⟨w1.heap.size, 2, none⟩ (.int .i64 c2)).setCell ⟨w1.heap.size, 3, none⟩ (.int .i64 d2)).setCell ⟨w1.heap.size, 4, none⟩ (.bool i2)).setCell ⟨w1.heap.size, 5, none⟩ (.string (S (Pl.encs (Pl.decF ri))))) := ((((((K3.setCell (by exact B1.out.size) _).setCell (by exact B1.out.size) _).setCell (by exact B1.out.size) _).setCell (by exact B1.out.size) _).setCell (by exact B1.out.size) _).setCell (by exact B1.out.size) _)
    have BK4 := Lib.hid hbk4
    have BL4 := Lib.hid hbl4
    clear hbk4 hbl4 K3 y0 g0 y1 g1 y2 g2 y3 g3 y4 g4 y5 g5
    generalize ((((((w3.setCell ⟨w1.heap.size, 0, none⟩ (.int .i64 29)).setCell ⟨w1.heap.size, 1, none⟩ (.int .i64 a2)).setCell ⟨w1.heap.size, 2, none⟩ (.int .i64 c2)).setCell ⟨w1.heap.size, 3, none⟩ (.int .i64 d2)).setCell ⟨w1.heap.size, 4, none⟩ (.bool i2)).setCell ⟨w1.heap.size, 5, none⟩ (.string (S (Pl.encs (Pl.decF ri))))) = W4 at BK4 BL4 ⊢
    have q0 := BK4.out.cell 0
    have q5 := BK4.out.cell 5
    simp only [List.getElem?_toArray, List.getElem?_cons_zero, List.getElem?_cons_succ] at q0 q5
    have TX4 := Lib.hid (HT.out.below BL4.out.drew)
    go_region_with (go_at_call 6; refine (HD.out _ TX4.out).mono ?_; rintro e w5 ⟨rfl, hb5⟩; have q5' : w5.cell? ⟨w1.heap.size, 5, none⟩ = some (.string (S (Pl.encs (Pl.decF ri)))) := (hb5.cell (p := ⟨w1.heap.size, 5, none⟩) (by exact BK4.out.lt)).trans q5; have B5 := Lib.hid hb5; clear hb5)
    all_goals
      go_wp2_with fail
      go_ret
      exact ⟨ret_bool (by simp), BL4.out.drew.trans (B5.out.mono BL4.out.size)⟩
set_option maxHeartbeats 2000000 in
theorem fnD_10 {s : ByteArray} {w : World} {k1 : Int} {t1 : List UInt8} (hk1 : (k1 == 36) = false) (hs : s.size ≤ 2147483647) (hT : Tabs w)
    (h1 : ∀ w, Calls Tryd.prog 5 #[.string (⟨#[34]⟩ ++ s ++ ⟨#[34]⟩)] w fun e w' => OnlyIs k1 t1 true w e w') (h2 : ∀ w, Calls Tryd.prog 5 #[.string s] w fun e w' => OnlyIs 0 [] false w e w') :
    Calls Tryd.prog 3 #[.string s] w fun e w' => e = .returned (.bool true) ∧ Below w.heap.size w w' := by
  have H1 := Lib.hid h1
  have H2 := Lib.hid h2
  have HT := Lib.hid hT
  clear h1 h2 hT
  go_enter Tryd.func3, Tryd.ntmps3
  go_wp2_with (go_at_call 5; (with_reducible refine (H1.out _).mono ?_); rintro e w1 ⟨⟨a1, c1, d1, i1, rfl⟩, hb1⟩; have B1 := Lib.hid hb1; clear hb1)
  go_quiet (fail)
  all_goals
    go_wp2_with (go_at_call 5; (with_reducible refine (H2.out _).mono ?_); rintro e w3 ⟨⟨a2, c2, d2, i2, rfl⟩, hb3⟩; have hbk3 : Blk w3 w1.heap.size 23 #[.int .i64 k1, .int .i64 a1, .int .i64 c1, .int .i64 d1, .bool i1, .string (S t1)] := (hb3.block _ (by simp)).trans ((Blk.new w1 _ _).drewN _); have y0 := hbk3.cell 0; have g0 := hbk3.frozen 0; have y1 := hbk3.cell 1; have g1 := hbk3.frozen 1; have y2 := hbk3.cell 2; have g2 := hbk3.frozen 2; have y3 := hbk3.cell 3; have g3 := hbk3.frozen 3; have y4 := hbk3.cell 4; have g4 := hbk3.frozen 4; have y5 := hbk3.cell 5; have g5 := hbk3.frozen 5; have HBK3 := Lib.hid hbk3; have B3 := Lib.hid hb3; clear hb3 hbk3; simp only [List.getElem?_toArray, List.getElem?_cons_zero, List.getElem?_cons_succ] at y0 y1 y2 y3 y4 y5)
    have hbk4 : Blk ((((((w3.setCell ⟨w1.heap.size, 0, none⟩ (.int .i64 0)).setCell ⟨w1.heap.size, 1, none⟩ (.int .i64 a2)).setCell ⟨w1.heap.size, 2, none⟩ (.int .i64 c2)).setCell ⟨w1.heap.size, 3, none⟩ (.int .i64 d2)).setCell ⟨w1.heap.size, 4, none⟩ (.bool i2)).setCell ⟨w1.heap.size, 5, none⟩ (.string (S []))) w1.heap.size 23 #[.int .i64 0, .int .i64 a2, .int .i64 c2, .int .i64 d2, .bool i2, .string (S [])] := ((((((HBK3.out.put 0 (.int .i64 0)).put 1 (.int .i64 a2)).put 2 (.int .i64 c2)).put 3 (.int .i64 d2)).put 4 (.bool i2)).put 5 (.string (S [])))
    have K3 : Below w.heap.size w w3 := (below_drewN (B1.out.alloc B1.out.size _) nq).trans (B3.out.mono (by have := B1.out.size; simp; omega))
    have hbl4 : Below w.heap.size w ((((((w3.setCell ⟨w1.heap.size, 0, none⟩ (.int .i64 0)).setCell ⟨w1.heap.size, 1, none⟩ (.int .i64 a2)).setCell ⟨w1.heap.size, 2, none⟩ (.int .i64 c2)).setCell ⟨w1.heap.size, 3, none⟩ (.int .i64 d2)).setCell ⟨w1.heap.size, 4, none⟩ (.bool i2)).setCell ⟨w1.heap.size, 5, none⟩ (.string (S []))) := ((((((K3.setCell (by exact B1.out.size) _).setCell (by exact B1.out.size) _).setCell (by exact B1.out.size) _).setCell (by exact B1.out.size) _).setCell (by exact B1.out.size) _).setCell (by exact B1.out.size) _)
    have BK4 := Lib.hid hbk4
    have BL4 := Lib.hid hbl4
    clear hbk4 hbl4 K3 y0 g0 y1 g1 y2 g2 y3 g3 y4 g4 y5 g5
    generalize ((((((w3.setCell ⟨w1.heap.size, 0, none⟩ (.int .i64 0)).setCell ⟨w1.heap.size, 1, none⟩ (.int .i64 a2)).setCell ⟨w1.heap.size, 2, none⟩ (.int .i64 c2)).setCell ⟨w1.heap.size, 3, none⟩ (.int .i64 d2)).setCell ⟨w1.heap.size, 4, none⟩ (.bool i2)).setCell ⟨w1.heap.size, 5, none⟩ (.string (S []))) = W4 at BK4 BL4 ⊢
    have q0 := BK4.out.cell 0
    have q5 := BK4.out.cell 5
    simp only [List.getElem?_toArray, List.getElem?_cons_zero, List.getElem?_cons_succ] at q0 q5
    go_quiet (fail)
    go_wp2_with fail
    go_ret
    exact ⟨ret_bool (by simp), below_drewN BL4.out _⟩
set_option maxHeartbeats 2000000 in
theorem fnD_11 {s : ByteArray} {w : World} {k1 : Int} {t1 : List UInt8} (hk1 : (k1 == 36) = false) {k2 : Int} {t2 : List UInt8} (hk2 : (k2 != 29) = true) (hs : s.size ≤ 2147483647) (hT : Tabs w)
    (h1 : ∀ w, Calls Tryd.prog 5 #[.string (⟨#[34]⟩ ++ s ++ ⟨#[34]⟩)] w fun e w' => OnlyIs k1 t1 true w e w') (h2 : ∀ w, Calls Tryd.prog 5 #[.string s] w fun e w' => OnlyIs k2 t2 true w e w') :
    Calls Tryd.prog 3 #[.string s] w fun e w' => e = .returned (.bool true) ∧ Below w.heap.size w w' := by
  have H1 := Lib.hid h1
  have H2 := Lib.hid h2
  have HT := Lib.hid hT
  clear h1 h2 hT
  go_enter Tryd.func3, Tryd.ntmps3
  go_wp2_with (go_at_call 5; (with_reducible refine (H1.out _).mono ?_); rintro e w1 ⟨⟨a1, c1, d1, i1, rfl⟩, hb1⟩; have B1 := Lib.hid hb1; clear hb1)
  go_quiet (fail)
  all_goals
    go_wp2_with (go_at_call 5; (with_reducible refine (H2.out _).mono ?_); rintro e w3 ⟨⟨a2, c2, d2, i2, rfl⟩, hb3⟩; have hbk3 : Blk w3 w1.heap.size 23 #[.int .i64 k1, .int .i64 a1, .int .i64 c1, .int .i64 d1, .bool i1, .string (S t1)] := (hb3.block _ (by simp)).trans ((Blk.new w1 _ _).drewN _); have y0 := hbk3.cell 0; have g0 := hbk3.frozen 0; have y1 := hbk3.cell 1; have g1 := hbk3.frozen 1; have y2 := hbk3.cell 2; have g2 := hbk3.frozen 2; have y3 := hbk3.cell 3; have g3 := hbk3.frozen 3; have y4 := hbk3.cell 4; have g4 := hbk3.frozen 4; have y5 := hbk3.cell 5; have g5 := hbk3.frozen 5; have HBK3 := Lib.hid hbk3; have B3 := Lib.hid hb3; clear hb3 hbk3; simp only [List.getElem?_toArray, List.getElem?_cons_zero, List.getElem?_cons_succ] at y0 y1 y2 y3 y4 y5)
    have hbk4 : Blk ((((((w3.setCell ⟨w1.heap.size, 0, none⟩ (.int .i64 k2)).setCell ⟨w1.heap.size, 1, none⟩ (.int .i64 a2)).setCell ⟨w1.heap.size, 2, none⟩ (.int .i64 c2)).setCell ⟨w1.heap.size, 3, none⟩ (.int .i64 d2)).setCell ⟨w1.heap.size, 4, none⟩ (.bool i2)).setCell ⟨w1.heap.size, 5, none⟩ (.string (S t2))) w1.heap.size 23 #[.int .i64 k2, .int .i64 a2, .int .i64 c2, .int .i64 d2, .bool i2, .string (S t2)] := ((((((HBK3.out.put 0 (.int .i64 k2)).put 1 (.int .i64 a2)).put 2 (.int .i64 c2)).put 3 (.int .i64 d2)).put 4 (.bool i2)).put 5 (.string (S t2)))
    have K3 : Below w.heap.size w w3 := (below_drewN (B1.out.alloc B1.out.size _) nq).trans (B3.out.mono (by have := B1.out.size; simp; omega))
    have hbl4 : Below w.heap.size w ((((((w3.setCell ⟨w1.heap.size, 0, none⟩ (.int .i64 k2)).setCell ⟨w1.heap.size, 1, none⟩ (.int .i64 a2)).setCell ⟨w1.heap.size, 2, none⟩ (.int .i64 c2)).setCell ⟨w1.heap.size, 3, none⟩ (.int .i64 d2)).setCell ⟨w1.heap.size, 4, none⟩ (.bool i2)).setCell ⟨w1.heap.size, 5, none⟩ (.string (S t2))) := ((((((K3.setCell (by exact B1.out.size) _).setCell (by exact B1.out.size) _).setCell (by exact B1.out.size) _).setCell (by exact B1.out.size) _).setCell (by exact B1.out.size) _).setCell (by exact B1.out.size) _)
    have BK4 := Lib.hid hbk4
    have BL4 := Lib.hid hbl4
    clear hbk4 hbl4 K3 y0 g0 y1 g1 y2 g2 y3 g3 y4 g4 y5 g5
    generalize ((((((w3.setCell ⟨w1.heap.size, 0, none⟩ (.int .i64 k2)).setCell ⟨w1.heap.size, 1, none⟩ (.int .i64 a2)).setCell ⟨w1.heap.size, 2, none⟩ (.int .i64 c2)).setCell ⟨w1.heap.size, 3, none⟩ (.int .i64 d2)).setCell ⟨w1.heap.size, 4, none⟩ (.bool i2)).setCell ⟨w1.heap.size, 5, none⟩ (.string (S t2))) = W4 at BK4 BL4 ⊢
    have q0 := BK4.out.cell 0
    have q5 := BK4.out.cell 5
    simp only [List.getElem?_toArray, List.getElem?_cons_zero, List.getElem?_cons_succ] at q0 q5
    go_quiet (fail)
    go_wp2_with fail
    go_ret
    exact ⟨ret_bool (by simp), below_drewN BL4.out _⟩
set_option maxHeartbeats 2000000 in
theorem fnD_12 {s : ByteArray} {w : World} {k1 : Int} {t1 : List UInt8} (hk1 : (k1 == 36) = false) {ri : List Nat} (hri : Str s ri) (hok : ∀ c ∈ ri, Pl.Ok c) (hs : s.size ≤ 2147483647) (hT : Tabs w)
    (h1 : ∀ w, Calls Tryd.prog 5 #[.string (⟨#[34]⟩ ++ s ++ ⟨#[34]⟩)] w fun e w' => OnlyIs k1 t1 true w e w') (h2 : ∀ w, Calls Tryd.prog 5 #[.string s] w fun e w' => OnlyIs 29 (Pl.encs (Pl.decF ri)) true w e w') :
    Calls Tryd.prog 3 #[.string s] w fun e w' => e = .returned (.bool true) ∧ Below w.heap.size w w' := by
  have H1 := Lib.hid h1
  have H2 := Lib.hid h2
  have HT := Lib.hid hT
  clear h1 h2 hT
  have HD := Lib.hid (fun (wx : World) (hx : Tabs wx) => (by have := dec_any ri wx hok (by rw [← hri.size]; omega) hx; rw [← hri.eq] at this; exact this : Calls Tryd.prog 6 #[.string s] wx fun e w' => e = .returned (.string (S (Pl.encs (Pl.decF ri)))) ∧ Below wx.heap.size wx w'))
  clear hri hok
  go_enter Tryd.func3, Tryd.ntmps3
  go_wp2_with (go_at_call 5; (with_reducible refine (H1.out _).mono ?_); rintro e w1 ⟨⟨a1, c1, d1, i1, rfl⟩, hb1⟩; have B1 := Lib.hid hb1; clear hb1)
  go_quiet (fail)
  all_goals
    go_wp2_with (go_at_call 5; (with_reducible refine (H2.out _).mono ?_); rintro e w3 ⟨⟨a2, c2, d2, i2, rfl⟩, hb3⟩; have hbk3 : Blk w3 w1.heap.size 23 #[.int .i64 k1, .int .i64 a1, .int .i64 c1, .int .i64 d1, .bool i1, .string (S t1)] := (hb3.block _ (by simp)).trans ((Blk.new w1 _ _).drewN _); have y0 := hbk3.cell 0; have g0 := hbk3.frozen 0; have y1 := hbk3.cell 1; have g1 := hbk3.frozen 1; have y2 := hbk3.cell 2; have g2 := hbk3.frozen 2; have y3 := hbk3.cell 3; have g3 := hbk3.frozen 3; have y4 := hbk3.cell 4; have g4 := hbk3.frozen 4; have y5 := hbk3.cell 5; have g5 := hbk3.frozen 5; have HBK3 := Lib.hid hbk3; have B3 := Lib.hid hb3; clear hb3 hbk3; simp only [List.getElem?_toArray, List.getElem?_cons_zero, List.getElem?_cons_succ] at y0 y1 y2 y3 y4 y5)
    have hbk4 : Blk ((((((w3.setCell ⟨w1.heap.size, 0, none⟩ (.int .i64 29)).setCell ⟨w1.heap.size, 1, none⟩ (.int .i64 a2)).setCell ⟨w1.heap.size, 2, none⟩ (.int .i64 c2)).setCell ⟨w1.heap.size, 3, none⟩ (.int .i64 d2)).setCell ⟨w1.heap.size, 4, none⟩ (.bool i2)).setCell ⟨w1.heap.size, 5, none⟩ (.string (S (Pl.encs (Pl.decF ri))))) w1.heap.size 23 #[.int .i64 29, .int .i64 a2, .int .i64 c2, .int .i64 d2, .bool i2, .string (S (Pl.encs (Pl.decF ri)))] := ((((((HBK3.out.put 0 (.int .i64 29)).put 1 (.int .i64 a2)).put 2 (.int .i64 c2)).put 3 (.int .i64 d2)).put 4 (.bool i2)).put 5 (.string (S (Pl.encs (Pl.decF ri)))))
    have K3 : Below w.heap.size w w3 := (below_drewN (B1.out.alloc B1.out.size _) nq).trans (B3.out.mono (by have := B1.out.size; simp; omega))
    have hbl4 : Below w.heap.size w ((((((w3.setCell ⟨w1.heap.size, 0, none⟩ (.int .i64 29)).setCell ⟨w1.heap.size, 1, none⟩ (.int .i64 a2)).setCell ⟨w1.heap.size, 2, none⟩ (.int .i64 c2)).setCell ⟨w1.heap.size, 3, none⟩ (.int .i64 d2)).setCell ⟨w1.heap.size, 4, none⟩ (.bool i2)).setCell ⟨w1.heap.size, 5, none⟩ (.string (S (Pl.encs (Pl.decF ri))))) := ((((((K3.setCell (by exact B1.out.size) _).setCell (by exact B1.out.size) _).setCell (by exact B1.out.size) _).setCell (by exact B1.out.size) _).setCell (by exact B1.out.size) _).setCell (by exact B1.out.size) _)
    have BK4 := Lib.hid hbk4
    have BL4 := Lib.hid hbl4
    clear hbk4 hbl4 K3 y0 g0 y1 g1 y2 g2 y3 g3 y4 g4 y5 g5
    generalize ((((((w3.setCell ⟨w1.heap.size, 0, none⟩ (.int .i64 29)).setCell ⟨w1.heap.size, 1, none⟩ (.int .i64 a2)).setCell ⟨w1.heap.size, 2, none⟩ (.int .i64 c2)).setCell ⟨w1.heap.size, 3, none⟩ (.int .i64 d2)).setCell ⟨w1.heap.size, 4, none⟩ (.bool i2)).setCell ⟨w1.heap.size, 5, none⟩ (.string (S (Pl.encs (Pl.decF ri))))) = W4 at BK4 BL4 ⊢
    have q0 := BK4.out.cell 0
    have q5 := BK4.out.cell 5
    simp only [List.getElem?_toArray, List.getElem?_cons_zero, List.getElem?_cons_succ] at q0 q5
    have TX4 := Lib.hid (HT.out.below BL4.out.drew)
    go_region_with (go_at_call 6; refine (HD.out _ TX4.out).mono ?_; rintro e w5 ⟨rfl, hb5⟩; have q5' : w5.cell? ⟨w1.heap.size, 5, none⟩ = some (.string (S (Pl.encs (Pl.decF ri)))) := (hb5.cell (p := ⟨w1.heap.size, 5, none⟩) (by exact BK4.out.lt)).trans q5; have B5 := Lib.hid hb5; clear hb5)
    all_goals
      go_wp2_with fail
      go_ret
      exact ⟨ret_bool (by simp), BL4.out.drew.trans (B5.out.mono BL4.out.size)⟩
set_option maxHeartbeats 2000000 in
theorem fnD_20 {s : ByteArray} {w : World} {ri : List Nat} (hri : Str s ri) (hok : ∀ c ∈ ri, Pl.Ok c) (hs : s.size ≤ 2147483647) (hT : Tabs w)
    (h1 : ∀ w, Calls Tryd.prog 5 #[.string (⟨#[34]⟩ ++ s ++ ⟨#[34]⟩)] w fun e w' => OnlyIs 36 (Pl.encs (Pl.decF ri)) true w e w') (h2 : ∀ w, Calls Tryd.prog 5 #[.string s] w fun e w' => OnlyIs 0 [] false w e w') :
    Calls Tryd.prog 3 #[.string s] w fun e w' => e = .returned (.bool true) ∧ Below w.heap.size w w' := by
  have H1 := Lib.hid h1
  have H2 := Lib.hid h2
  have HT := Lib.hid hT
  clear h1 h2 hT
  have HD := Lib.hid (fun (wx : World) (hx : Tabs wx) => (by have := dec_any ri wx hok (by rw [← hri.size]; omega) hx; rw [← hri.eq] at this; exact this : Calls Tryd.prog 6 #[.string s] wx fun e w' => e = .returned (.string (S (Pl.encs (Pl.decF ri)))) ∧ Below wx.heap.size wx w'))
  clear hri hok
  go_enter Tryd.func3, Tryd.ntmps3
  go_wp2_with (go_at_call 5; (with_reducible refine (H1.out _).mono ?_); rintro e w1 ⟨⟨a1, c1, d1, i1, rfl⟩, hb1⟩; have B1 := Lib.hid hb1; clear hb1)
  have TX := Lib.hid (fun (o : Obj) => ((HT.out.below ((Below.refl _ w).trans (B1.out))).below ((Below.refl _ w1).alloc (Nat.le_refl _) o).drew : Tabs ((w1.alloc o).drew)))
  go_region_with (go_at_call 6; refine (HD.out _ (TX.out _)).mono ?_; rintro e w2 ⟨rfl, hb2⟩; have hbk : Blk w2 w1.heap.size 23 #[.int .i64 36, .int .i64 a1, .int .i64 c1, .int .i64 d1, .bool i1, .string (S (Pl.encs (Pl.decF ri)))] := (hb2.block _ (by simp)).trans (Blk.new w1 _ _); have z0 := hbk.cell 0; have f0 := hbk.frozen 0; have z1 := hbk.cell 1; have f1 := hbk.frozen 1; have z2 := hbk.cell 2; have f2 := hbk.frozen 2; have z3 := hbk.cell 3; have f3 := hbk.frozen 3; have z4 := hbk.cell 4; have f4 := hbk.frozen 4; have z5 := hbk.cell 5; have f5 := hbk.frozen 5; have HBK := Lib.hid hbk; have B2 := Lib.hid hb2; clear hb2 hbk; simp only [List.getElem?_toArray, List.getElem?_cons_zero, List.getElem?_cons_succ] at z0 z1 z2 z3 z4 z5)
  all_goals
    go_wp2_with (go_at_call 5; (with_reducible refine (H2.out _).mono ?_); rintro e w3 ⟨⟨a2, c2, d2, i2, rfl⟩, hb3⟩; have hbk3 : Blk w3 w1.heap.size 23 #[.int .i64 36, .int .i64 a1, .int .i64 c1, .int .i64 d1, .bool i1, .string (S (Pl.encs (Pl.decF ri)))] := (hb3.block _ HBK.out.lt).trans HBK.out; have y0 := hbk3.cell 0; have g0 := hbk3.frozen 0; have y1 := hbk3.cell 1; have g1 := hbk3.frozen 1; have y2 := hbk3.cell 2; have g2 := hbk3.frozen 2; have y3 := hbk3.cell 3; have g3 := hbk3.frozen 3; have y4 := hbk3.cell 4; have g4 := hbk3.frozen 4; have y5 := hbk3.cell 5; have g5 := hbk3.frozen 5; have HBK3 := Lib.hid hbk3; have B3 := Lib.hid hb3; clear hb3 hbk3; simp only [List.getElem?_toArray, List.getElem?_cons_zero, List.getElem?_cons_succ] at y0 y1 y2 y3 y4 y5)
    have hbk4 : Blk ((((((w3.setCell ⟨w1.heap.size, 0, none⟩ (.int .i64 0)).setCell ⟨w1.heap.size, 1, none⟩ (.int .i64 a2)).setCell ⟨w1.heap.size, 2, none⟩ (.int .i64 c2)).setCell ⟨w1.heap.size, 3, none⟩ (.int .i64 d2)).setCell ⟨w1.heap.size, 4, none⟩ (.bool i2)).setCell ⟨w1.heap.size, 5, none⟩ (.string (S []))) w1.heap.size 23 #[.int .i64 0, .int .i64 a2, .int .i64 c2, .int .i64 d2, .bool i2, .string (S [])] := ((((((HBK3.out.put 0 (.int .i64 0)).put 1 (.int .i64 a2)).put 2 (.int .i64 c2)).put 3 (.int .i64 d2)).put 4 (.bool i2)).put 5 (.string (S [])))
    have K2 : Below w.heap.size w w2 := ((B1.out.alloc B1.out.size _).drew).trans (B2.out.mono (by have := B1.out.size; simp; omega))
    have K3 : Below w.heap.size w w3 := K2.trans (B3.out.mono K2.size)
    have hbl4 : Below w.heap.size w ((((((w3.setCell ⟨w1.heap.size, 0, none⟩ (.int .i64 0)).setCell ⟨w1.heap.size, 1, none⟩ (.int .i64 a2)).setCell ⟨w1.heap.size, 2, none⟩ (.int .i64 c2)).setCell ⟨w1.heap.size, 3, none⟩ (.int .i64 d2)).setCell ⟨w1.heap.size, 4, none⟩ (.bool i2)).setCell ⟨w1.heap.size, 5, none⟩ (.string (S []))) := ((((((K3.setCell (by exact B1.out.size) _).setCell (by exact B1.out.size) _).setCell (by exact B1.out.size) _).setCell (by exact B1.out.size) _).setCell (by exact B1.out.size) _).setCell (by exact B1.out.size) _)
    have BK4 := Lib.hid hbk4
    have BL4 := Lib.hid hbl4
    clear hbk4 hbl4 K3 y0 g0 y1 g1 y2 g2 y3 g3 y4 g4 y5 g5 z0 f0 z1 f1 z2 f2 z3 f3 z4 f4 z5 f5
    generalize ((((((w3.setCell ⟨w1.heap.size, 0, none⟩ (.int .i64 0)).setCell ⟨w1.heap.size, 1, none⟩ (.int .i64 a2)).setCell ⟨w1.heap.size, 2, none⟩ (.int .i64 c2)).setCell ⟨w1.heap.size, 3, none⟩ (.int .i64 d2)).setCell ⟨w1.heap.size, 4, none⟩ (.bool i2)).setCell ⟨w1.heap.size, 5, none⟩ (.string (S []))) = W4 at BK4 BL4 ⊢
    have q0 := BK4.out.cell 0
    have q5 := BK4.out.cell 5
    simp only [List.getElem?_toArray, List.getElem?_cons_zero, List.getElem?_cons_succ] at q0 q5
    go_quiet (fail)
    go_wp2_with fail
    go_ret
    exact ⟨ret_bool (by simp), below_drewN BL4.out _⟩
set_option maxHeartbeats 2000000 in
theorem fnD_21 {s : ByteArray} {w : World} {k2 : Int} {t2 : List UInt8} (hk2 : (k2 != 29) = true) {ri : List Nat} (hri : Str s ri) (hok : ∀ c ∈ ri, Pl.Ok c) (hs : s.size ≤ 2147483647) (hT : Tabs w)
    (h1 : ∀ w, Calls Tryd.prog 5 #[.string (⟨#[34]⟩ ++ s ++ ⟨#[34]⟩)] w fun e w' => OnlyIs 36 (Pl.encs (Pl.decF ri)) true w e w') (h2 : ∀ w, Calls Tryd.prog 5 #[.string s] w fun e w' => OnlyIs k2 t2 true w e w') :
    Calls Tryd.prog 3 #[.string s] w fun e w' => e = .returned (.bool true) ∧ Below w.heap.size w w' := by
  have H1 := Lib.hid h1
  have H2 := Lib.hid h2
  have HT := Lib.hid hT
  clear h1 h2 hT
  have HD := Lib.hid (fun (wx : World) (hx : Tabs wx) => (by have := dec_any ri wx hok (by rw [← hri.size]; omega) hx; rw [← hri.eq] at this; exact this : Calls Tryd.prog 6 #[.string s] wx fun e w' => e = .returned (.string (S (Pl.encs (Pl.decF ri)))) ∧ Below wx.heap.size wx w'))
  clear hri hok
  go_enter Tryd.func3, Tryd.ntmps3
  go_wp2_with (go_at_call 5; (with_reducible refine (H1.out _).mono ?_); rintro e w1 ⟨⟨a1, c1, d1, i1, rfl⟩, hb1⟩; have B1 := Lib.hid hb1; clear hb1)
  have TX := Lib.hid (fun (o : Obj) => ((HT.out.below ((Below.refl _ w).trans (B1.out))).below ((Below.refl _ w1).alloc (Nat.le_refl _) o).drew : Tabs ((w1.alloc o).drew)))
  go_region_with (go_at_call 6; refine (HD.out _ (TX.out _)).mono ?_; rintro e w2 ⟨rfl, hb2⟩; have hbk : Blk w2 w1.heap.size 23 #[.int .i64 36, .int .i64 a1, .int .i64 c1, .int .i64 d1, .bool i1, .string (S (Pl.encs (Pl.decF ri)))] := (hb2.block _ (by simp)).trans (Blk.new w1 _ _); have z0 := hbk.cell 0; have f0 := hbk.frozen 0; have z1 := hbk.cell 1; have f1 := hbk.frozen 1; have z2 := hbk.cell 2; have f2 := hbk.frozen 2; have z3 := hbk.cell 3; have f3 := hbk.frozen 3; have z4 := hbk.cell 4; have f4 := hbk.frozen 4; have z5 := hbk.cell 5; have f5 := hbk.frozen 5; have HBK := Lib.hid hbk; have B2 := Lib.hid hb2; clear hb2 hbk; simp only [List.getElem?_toArray, List.getElem?_cons_zero, List.getElem?_cons_succ] at z0 z1 z2 z3 z4 z5)
  all_goals
    go_wp2_with (go_at_call 5; (with_reducible refine (H2.out _).mono ?_); rintro e w3 ⟨⟨a2, c2, d2, i2, rfl⟩, hb3⟩; have hbk3 : Blk w3 w1.heap.size 23 #[.int .i64 36, .int .i64 a1, .int .i64 c1, .int .i64 d1, .bool i1, .string (S (Pl.encs (Pl.decF ri)))] := (hb3.block _ HBK.out.lt).trans HBK.out; have y0 := hbk3.cell 0; have g0 := hbk3.frozen 0; have y1 := hbk3.cell 1; have g1 := hbk3.frozen 1; have y2 := hbk3.cell 2; have g2 := hbk3.frozen 2; have y3 := hbk3.cell 3; have g3 := hbk3.frozen 3; have y4 := hbk3.cell 4; have g4 := hbk3.frozen 4; have y5 := hbk3.cell 5; have g5 := hbk3.frozen 5; have HBK3 := Lib.hid hbk3; have B3 := Lib.hid hb3; clear hb3 hbk3; simp only [List.getElem?_toArray, List.getElem?_cons_zero, List.getElem?_cons_succ] at y0 y1 y2 y3 y4 y5)
    have hbk4 : Blk ((((((w3.setCell ⟨w1.heap.size, 0, none⟩ (.int .i64 k2)).setCell ⟨w1.heap.size, 1, none⟩ (.int .i64 a2)).setCell ⟨w1.heap.size, 2, none⟩ (.int .i64 c2)).setCell ⟨w1.heap.size, 3, none⟩ (.int .i64 d2)).setCell ⟨w1.heap.size, 4, none⟩ (.bool i2)).setCell ⟨w1.heap.size, 5, none⟩ (.string (S t2))) w1.heap.size 23 #[.int .i64 k2, .int .i64 a2, .int .i64 c2, .int .i64 d2, .bool i2, .string (S t2)] := ((((((HBK3.out.put 0 (.int .i64 k2)).put 1 (.int .i64 a2)).put 2 (.int .i64 c2)).put 3 (.int .i64 d2)).put 4 (.bool i2)).put 5 (.string (S t2)))
    have K2 : Below w.heap.size w w2 := ((B1.out.alloc B1.out.size _).drew).trans (B2.out.mono (by have := B1.out.size; simp; omega))
    have K3 : Below w.heap.size w w3 := K2.trans (B3.out.mono K2.size)
    have hbl4 : Below w.heap.size w ((((((w3.setCell ⟨w1.heap.size, 0, none⟩ (.int .i64 k2)).setCell ⟨w1.heap.size, 1, none⟩ (.int .i64 a2)).setCell ⟨w1.heap.size, 2, none⟩ (.int .i64 c2)).setCell ⟨w1.heap.size, 3, none⟩ (.int .i64 d2)).setCell ⟨w1.heap.size, 4, none⟩ (.bool i2)).setCell ⟨w1.heap.size, 5, none⟩ (.string (S t2))) := ((((((K3.setCell (by exact B1.out.size) _).setCell (by exact B1.out.size) _).setCell (by exact B1.out.size) _).setCell (by exact B1.out.size) _).setCell (by exact B1.out.size) _).setCell (by exact B1.out.size) _)
    have BK4 := Lib.hid hbk4
    have BL4 := Lib.hid hbl4
    clear hbk4 hbl4 K3 y0 g0 y1 g1 y2 g2 y3 g3 y4 g4 y5 g5 z0 f0 z1 f1 z2 f2 z3 f3 z4 f4 z5 f5
    generalize ((((((w3.setCell ⟨w1.heap.size, 0, none⟩ (.int .i64 k2)).setCell ⟨w1.heap.size, 1, none⟩ (.int .i64 a2)).setCell ⟨w1.heap.size, 2, none⟩ (.int .i64 c2)).setCell ⟨w1.heap.size, 3, none⟩ (.int .i64 d2)).setCell ⟨w1.heap.size, 4, none⟩ (.bool i2)).setCell ⟨w1.heap.size, 5, none⟩ (.string (S t2))) = W4 at BK4 BL4 ⊢
    have q0 := BK4.out.cell 0
    have q5 := BK4.out.cell 5
    simp only [List.getElem?_toArray, List.getElem?_cons_zero, List.getElem?_cons_succ] at q0 q5
    go_quiet (fail)
    go_wp2_with fail
    go_ret
    exact ⟨ret_bool (by simp), below_drewN BL4.out _⟩
set_option maxHeartbeats 2000000 in
theorem fnD_22 {s : ByteArray} {w : World} {ri : List Nat} (hri : Str s ri) (hok : ∀ c ∈ ri, Pl.Ok c) (hs : s.size ≤ 2147483647) (hT : Tabs w)
    (h1 : ∀ w, Calls Tryd.prog 5 #[.string (⟨#[34]⟩ ++ s ++ ⟨#[34]⟩)] w fun e w' => OnlyIs 36 (Pl.encs (Pl.decF ri)) true w e w') (h2 : ∀ w, Calls Tryd.prog 5 #[.string s] w fun e w' => OnlyIs 29 (Pl.encs (Pl.decF ri)) true w e w') :
    Calls Tryd.prog 3 #[.string s] w fun e w' => e = .returned (.bool true) ∧ Below w.heap.size w w' := by
  have H1 := Lib.hid h1
  have H2 := Lib.hid h2
  have HT := Lib.hid hT
  clear h1 h2 hT
  have HD := Lib.hid (fun (wx : World) (hx : Tabs wx) => (by have := dec_any ri wx hok (by rw [← hri.size]; omega) hx; rw [← hri.eq] at this; exact this : Calls Tryd.prog 6 #[.string s] wx fun e w' => e = .returned (.string (S (Pl.encs (Pl.decF ri)))) ∧ Below wx.heap.size wx w'))
  clear hri hok
  go_enter Tryd.func3, Tryd.ntmps3
  go_wp2_with (go_at_call 5; (with_reducible refine (H1.out _).mono ?_); rintro e w1 ⟨⟨a1, c1, d1, i1, rfl⟩, hb1⟩; have B1 := Lib.hid hb1; clear hb1)
  have TX := Lib.hid (fun (o : Obj) => ((HT.out.below ((Below.refl _ w).trans (B1.out))).below ((Below.refl _ w1).alloc (Nat.le_refl _) o).drew : Tabs ((w1.alloc o).drew)))
  go_region_with (go_at_call 6; refine (HD.out _ (TX.out _)).mono ?_; rintro e w2 ⟨rfl, hb2⟩; have hbk : Blk w2 w1.heap.size 23 #[.int .i64 36, .int .i64 a1, .int .i64 c1, .int .i64 d1, .bool i1, .string (S (Pl.encs (Pl.decF ri)))] := (hb2.block _ (by simp)).trans (Blk.new w1 _ _); have z0 := hbk.cell 0; have f0 := hbk.frozen 0; have z1 := hbk.cell 1; have f1 := hbk.frozen 1; have z2 := hbk.cell 2; have f2 := hbk.frozen 2; have z3 := hbk.cell 3; have f3 := hbk.frozen 3; have z4 := hbk.cell 4; have f4 := hbk.frozen 4; have z5 := hbk.cell 5; have f5 := hbk.frozen 5; have HBK := Lib.hid hbk; have B2 := Lib.hid hb2; clear hb2 hbk; simp only [List.getElem?_toArray, List.getElem?_cons_zero, List.getElem?_cons_succ] at z0 z1 z2 z3 z4 z5)
  all_goals
    go_wp2_with (go_at_call 5; (with_reducible refine (H2.out _).mono ?_); rintro e w3 ⟨⟨a2, c2, d2, i2, rfl⟩, hb3⟩; have hbk3 : Blk w3 w1.heap.size 23 #[.int .i64 36, .int .i64 a1, .int .i64 c1, .int .i64 d1, .bool i1, .string (S (Pl.encs (Pl.decF ri)))] := (hb3.block _ HBK.out.lt).trans HBK.out; have y0 := hbk3.cell 0; have g0 := hbk3.frozen 0; have y1 := hbk3.cell 1; have g1 := hbk3.frozen 1; have y2 := hbk3.cell 2; have g2 := hbk3.frozen 2; have y3 := hbk3.cell 3; have g3 := hbk3.frozen 3; have y4 := hbk3.cell 4; have g4 := hbk3.frozen 4; have y5 := hbk3.cell 5; have g5 := hbk3.frozen 5; have HBK3 := Lib.hid hbk3; have B3 := Lib.hid hb3; clear hb3 hbk3; simp only [List.getElem?_toArray, List.getElem?_cons_zero, List.getElem?_cons_succ] at y0 y1 y2 y3 y4 y5)
    have hbk4 : Blk ((((((w3.setCell ⟨w1.heap.size, 0, none⟩ (.int .i64 29)).setCell ⟨w1.heap.size, 1, none⟩ (.int .i64 a2)).setCell ⟨w1.heap.size, 2, none⟩ (.int .i64 c2)).setCell ⟨w1.heap.size, 3, none⟩ (.int .i64 d2)).setCell ⟨w1.heap.size, 4, none⟩ (.bool i2)).setCell ⟨w1.heap.size, 5, none⟩ (.string (S (Pl.encs (Pl.decF ri))))) w1.heap.size 23 #[.int .i64 29, .int .i64 a2, .int .i64 c2, .int .i64 d2, .bool i2, .string (S (Pl.encs (Pl.decF ri)))] := ((((((HBK3.out.put 0 (.int .i64 29)).put 1 (.int .i64 a2)).put 2 (.int .i64 c2)).put 3 (.int .i64 d2)).put 4 (.bool i2)).put 5 (.string (S (Pl.encs (Pl.decF ri)))))
    have K2 : Below w.heap.size w w2 := ((B1.out.alloc B1.out.size _).drew).trans (B2.out.mono (by have := B1.out.size; simp; omega))
    have K3 : Below w.heap.size w w3 := K2.trans (B3.out.mono K2.size)
    have hbl4 : Below w.heap.size w ((((((w3.setCell ⟨w1.heap.size, 0, none⟩ (.int .i64 29)).setCell ⟨w1.heap.size, 1, none⟩ (.int .i64 a2)).setCell ⟨w1.heap.size, 2, none⟩ (.int .i64 c2)).setCell ⟨w1.heap.size, 3, none⟩ (.int .i64 d2)).setCell ⟨w1.heap.size, 4, none⟩ (.bool i2)).setCell ⟨w1.heap.size, 5, none⟩ (.string (S (Pl.encs (Pl.decF ri))))) := ((((((K3.setCell (by exact B1.out.size) _).setCell (by exact B1.out.size) _).setCell (by exact B1.out.size) _).setCell (by exact B1.out.size) _).setCell (by exact B1.out.size) _).setCell (by exact B1.out.size) _)
    have BK4 := Lib.hid hbk4
    have BL4 := Lib.hid hbl4
    clear hbk4 hbl4 K3 y0 g0 y1 g1 y2 g2 y3 g3 y4 g4 y5 g5 z0 f0 z1 f1 z2 f2 z3 f3 z4 f4 z5 f5
    generalize ((((((w3.setCell ⟨w1.heap.size, 0, none⟩ (.int .i64 29)).setCell ⟨w1.heap.size, 1, none⟩ (.int .i64 a2)).setCell ⟨w1.heap.size, 2, none⟩ (.int .i64 c2)).setCell ⟨w1.heap.size, 3, none⟩ (.int .i64 d2)).setCell ⟨w1.heap.size, 4, none⟩ (.bool i2)).setCell ⟨w1.heap.size, 5, none⟩ (.string (S (Pl.encs (Pl.decF ri))))) = W4 at BK4 BL4 ⊢
    have q0 := BK4.out.cell 0
    have q5 := BK4.out.cell 5
    simp only [List.getElem?_toArray, List.getElem?_cons_zero, List.getElem?_cons_succ] at q0 q5
    have TX4 := Lib.hid (HT.out.below BL4.out.drew)
    go_region_with (go_at_call 6; refine (HD.out _ TX4.out).mono ?_; rintro e w5 ⟨rfl, hb5⟩; have q5' : w5.cell? ⟨w1.heap.size, 5, none⟩ = some (.string (S (Pl.encs (Pl.decF ri)))) := (hb5.cell (p := ⟨w1.heap.size, 5, none⟩) (by exact BK4.out.lt)).trans q5; have B5 := Lib.hid hb5; clear hb5)
    all_goals
      go_wp2_with fail
      go_ret
      exact ⟨ret_bool (by simp), BL4.out.drew.trans (B5.out.mono BL4.out.size)⟩
end Go.Proofs.YtmomkkakjkkakaaDoor
