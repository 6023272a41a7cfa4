/-
  What printIdent's walk wants: plain facts.
-/
import Derived.Test.YtmomkkakjkkakaaFmtPwb
set_option linter.unusedVariables false
set_option linter.unusedSimpArgs false
namespace Go.Proofs.YtmomkkakjkkakaaFmt
open Go.RowKit

/-- the first bytes of a text -/
theorem byte_at {x : ByteArray} {c : Nat} {t : List Nat} {k : Nat} (hd : x.data.toList.drop k = Pl.encs (c :: t)) (hc : Pl.Sc c) : (c < 128 ∧ bt x k = c) ∨ (128 ≤ c ∧ 128 ≤ bt x k) := by
  have hb := bt_drop hd 0
  rw [Nat.add_zero] at hb
  rw [hb, Pl.encs_cons]
  unfold Pl.Sc at hc
  rcases Nat.lt_or_ge c 128 with g1 | g1
  · left; rw [enc1 g1]; exact ⟨g1, by simp; omega⟩
  right
  refine ⟨g1, ?_⟩
  rcases Nat.lt_or_ge c 2048 with g2 | g2
  · rw [enc2 g1 g2]; simp; omega
  rcases Nat.lt_or_ge c 65536 with g3 | g3
  · rw [enc3 (by omega)]; simp; omega
  · rw [enc4 g3 (by omega)]; simp; omega
theorem step_one {x : ByteArray} {c : Nat} {t : List Nat} {k : Nat} (hd : x.data.toList.drop k = Pl.encs (c :: t)) (hc : c < 128) : x.data.toList.drop (k + 1) = Pl.encs t := by
  rw [← List.drop_drop, hd, Pl.encs_cons, enc1 hc]; rfl
/-- a text of signs of names alone -/
theorem low_all {x : ByteArray} {r : List Nat} (h : Str x r) (hok : ∀ c ∈ r, Pl.Ok c) (hb : ∀ j, j < x.size → bt x j < 128 ∧ Pl.contsB (bt x j) = true) : ∀ c ∈ r, c < 128 ∧ Pl.contsB (c : Int) = true := by
  intro c hc
  obtain ⟨a, t, rfl⟩ := List.append_of_mem hc
  have hs : Pl.Sc c := (hok c hc).1
  have hl := enc_len_pos c
  have hsz := h.size
  rw [Pl.encs_append, Pl.encs_cons, List.length_append, List.length_append] at hsz
  have hd : x.data.toList.drop (Pl.encs a).length = Pl.encs (c :: t) := by rw [h.txt, Pl.encs_append, List.drop_left]
  have := hb (Pl.encs a).length (by omega)
  rcases byte_at hd hs with ⟨h1, h2⟩ | ⟨h1, h2⟩
  · rw [h2] at this; exact this
  · omega
namespace Pl
theorem idE_low {ascii : Bool} {c : Nat} (h : c < 128) (hc : contsB (c : Int) = true) : idE ascii 0 c = 0 := by
  unfold idE
  have : ¬ (c = 13 ∨ c = 10 ∨ c = 12 ∨ c = 65279) := by
    simp only [contsB, decide_eq_true_eq] at hc; omega
  rw [if_neg (by omega), if_neg this, if_neg (by omega), if_pos hc]
theorem items_zero (ascii : Bool) (t : List Nat) : idItems ascii 0 t = idRest ascii t := by cases t <;> rfl
theorem items_cons (ascii : Bool) (i c : Nat) (t : List Nat) : idItems ascii i (c :: t) = (c, idE ascii i c) :: idItems ascii 0 t := by rw [items_zero]; rfl
theorem items_head (ascii : Bool) (i : Nat) (t : List Nat) : (idItems ascii i t).head?.map (·.1) = t.head? := by cases t <;> rfl
theorem out_low_raw {ascii may : Bool} : ∀ (r : List Nat), (∀ c ∈ r, c < 128 ∧ contsB (c : Int) = true) → outF (idItems ascii 0 r) may = r
  | [], _ => rfl
  | c :: t, h => by
    have hc := h c (by simp)
    rw [items_cons, idE_low hc.1 hc.2, outF, pweF_raw (by simp [escK]), out_low_raw t (fun d hd => h d (by simp [hd]))]
    rfl
theorem ident_fast {mode : Nat} {may ascii : Bool} {r : List Nat} (hi : initE mode r = 0) (h : ∀ c ∈ r, c < 128 ∧ contsB (c : Int) = true) : identF mode may ascii r = r := by
  unfold identF
  rw [hi, out_low_raw r h]
/-- one sign printed -/
theorem items_step {ascii may : Bool} {i c : Nat} {t : List Nat} : outF (idItems ascii i (c :: t)) may = pweF c (idE ascii i c) t.head? may ++ outF (idItems ascii 0 t) may := by
  rw [items_cons, outF, items_head]
theorem pwe_may {c e : Nat} {t : List Nat} {may b : Bool} (h : t = [] → e ≠ 0 → b = may) (he : e ≤ 2) : pweF c e t.head? b = pweF c e t.head? may := by
  cases t with
  | cons d u => unfold pweF tailSp; rfl
  | nil =>
    by_cases h0 : e = 0
    · subst h0
      have : escK c 0 = 0 := by simp [escK]
      rw [pweF_raw this, pweF_raw this]
    · rw [h rfl h0]
theorem pwe_len {c e : Nat} {nx : Option Nat} {may : Bool} (h : Ok c) (he : e ≤ 2) : (encs (pweF c e nx may)).length ≤ 8 := by
  have hc : c ≤ 1114111 := by have := h.1; unfold Sc at this; omega
  have h4 := enc_len_le c
  have hk : escK c e = 0 ∨ escK c e = 1 ∨ escK c e = 2 := by unfold escK; split <;> omega
  have hs := hexs_spells (c := c) (by omega)
  rcases hk with h0 | h0 | h0
  · rw [pweF_raw h0, encs_cons, encs_nil, List.append_nil]; omega
  · rw [pweF_back h0, encs_cons, encs_cons, encs_nil, List.append_nil, List.length_append, enc_dig (c := 92) (by omega)]; omega
  · rw [pweF_hex h0]
    have htl : ∀ d ∈ tailSp c nx may, d < 128 := by
      unfold tailSp
      intro d hd
      (repeat' split at hd) <;> simp at hd <;> omega
    have htn : (tailSp c nx may).length ≤ 1 := by
      unfold tailSp
      (repeat' split) <;> simp
    have hl := hs.len
    rw [encs_len_low]
    · simp only [List.length_cons, List.length_append]; omega
    · intro d hd
      rcases List.mem_cons.mp hd with rfl | hd
      · omega
      · rcases List.mem_append.mp hd with hd | hd
        · exact (hex_ok (hs.all d hd)).2
        · exact htl d hd
end Pl
/-- the printer stands while an iterator is moved on -/
theorem own_turn {w : World} {B size n : Nat} {T : TypeId} {u : Value} {xs : List Value} (h : w.ownsRow B T size u n xs) {k : Nat} {s : ByteArray} {pos : Nat} (hk : w.heap[k]? = some (.stringIter s pos)) (p : Nat) : (w.iterAt k s p).ownsRow B T size u n xs := by
  obtain ⟨hl, h⟩ := h
  refine ⟨hl, ?_⟩
  rcases h with h | ⟨g, cap, cur, hv, hb, hg, rest⟩
  · exact .inl h
  · refine .inr ⟨g, cap, cur, hv, hb, ?_, rest⟩
    rw [Lib.iterAt_other]
    · exact hg
    · rintro rfl; rw [hk] at hg; cases hg
theorem Pr.turn {w : World} {B : Nat} {ascii : Bool} {v : Value} {d : List UInt8} (h : Pr w B ascii v d) {k : Nat} {s : ByteArray} {pos : Nat} (hk : w.heap[k]? = some (.stringIter s pos)) (p : Nat) : Pr (w.iterAt k s p) B ascii v d := by
  obtain ⟨⟨cs, hb, rest⟩, ho⟩ := h
  refine ⟨⟨cs, ?_, rest⟩, own_turn ho hk p⟩
  unfold Blk at hb ⊢
  rw [Lib.iterAt_other]
  · exact hb
  · rintro rfl; rw [hk] at hb; cases hb
theorem Kp.turn {T : TypeId} {B : Nat} {w0 w : World} (h : Kp T B w0 w) {k : Nat} (hB : B ≤ k) (hk : w0.heap.size ≤ k) (s : ByteArray) (p : Nat) : Kp T B w0 (w.iterAt k s p) :=
  ⟨Lib.below_iterAt h.below hB s p, fun i o hi hb ho => by
    have hlt : i < w0.heap.size := (Array.getElem?_eq_some_iff.1 hi).1
    rw [Lib.iterAt_other w k i s p (by omega)]
    exact h.kept i o hi hb ho⟩
end Go.Proofs.YtmomkkakjkkakaaFmt
