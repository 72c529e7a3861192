/- Plain mathematics, no program: what strconv's quoting writes for a byte string is a row of items, each of which a strict reader turns back into the bytes that it stands for. -/
import Derived.Stop.FmtQuoteTie
namespace Go.Proofs.YtfldnaoaepbgiaaFmt.Plain
open Go.Extern.FmtText
open Go

/-- The UTF-8 bytes of a rune. -/
def enc (r : Nat) : List UInt8 := (Utf8.encode (r : Int)).data.toList

/-- The escapes of one letter, with what they stand for. -/
def simple : List (Nat × Nat) := [(97, 7), (98, 8), (102, 12), (110, 10), (114, 13), (116, 9), (118, 11), (92, 92), (34, 34)]

/-- A rune that UTF-8 writes in two bytes or more. -/
def Wide (r : Nat) : Prop := 128 ≤ r ∧ (r < 55296 ∨ (57344 ≤ r ∧ r ≤ 1114111))
/-- A rune that UTF-8 can write. -/
def Good (r : Nat) : Prop := r < 55296 ∨ (57344 ≤ r ∧ r ≤ 1114111)

/-- One item of a quoted text: what stands there, and what it stands for. -/
def Item (code dec : List UInt8) : Prop :=
  (∃ c : Nat, code = [UInt8.ofNat c] ∧ dec = [UInt8.ofNat c] ∧ 32 ≤ c ∧ c < 127 ∧ c ≠ 34 ∧ c ≠ 92) ∨
  (∃ r : Nat, code = enc r ∧ dec = enc r ∧ Wide r) ∨
  (∃ e v : Nat, code = [92, UInt8.ofNat e] ∧ dec = [UInt8.ofNat v] ∧ (e, v) ∈ simple) ∨
  (∃ b : Nat, code = 92 :: 120 :: hexDigits b 2 ∧ dec = [UInt8.ofNat b] ∧ b < 256) ∨
  (∃ r : Nat, code = 92 :: 117 :: hexDigits r 4 ∧ dec = enc r ∧ r < 65536 ∧ Good r) ∨
  (∃ r : Nat, code = 92 :: 85 :: hexDigits r 8 ∧ dec = enc r ∧ Good r)

/-- A text made of items, and what it stands for. -/
def Coded : List UInt8 → List UInt8 → Prop := fun q s => ∃ l : List (List UInt8 × List UInt8), (∀ x ∈ l, Item x.1 x.2) ∧ q = (l.map (·.1)).flatten ∧ s = (l.map (·.2)).flatten

theorem Coded.nil : Coded [] [] := ⟨[], by simp, rfl, rfl⟩
theorem Coded.cons {c d q s : List UInt8} (h : Item c d) (k : Coded q s) : Coded (c ++ q) (d ++ s) := by
  obtain ⟨l, hl, rfl, rfl⟩ := k
  refine ⟨(c, d) :: l, ?_, by simp, by simp⟩
  intro x hx
  cases List.mem_cons.1 hx with
  | inl e => subst e; exact h
  | inr e => exact hl x e

theorem valid_good (r : Nat) : Utf8.valid (r : Int) = true ↔ Good r := by
  unfold Utf8.valid Good
  simp only [Bool.or_eq_true, Bool.and_eq_true, decide_eq_true_eq]
  omega

theorem small_print (r : Nat) (h : r < 128) (hp : isPrint r = true) : 32 ≤ r ∧ r < 127 := by
  unfold isPrint at hp
  rw [if_pos (by omega)] at hp
  simp only [Bool.or_eq_true, Bool.and_eq_true, decide_eq_true_eq] at hp
  omega

set_option maxRecDepth 100000 in
theorem esc_item (r : Nat) (hg : Good r) : Item (escRune 34 false r) (enc r) := by
  unfold escRune
  by_cases h1 : (r == 34 || r == 92) = true
  · rw [if_pos h1]
    simp only [Bool.or_eq_true, beq_iff_eq] at h1
    refine Or.inr (Or.inr (Or.inl ⟨r, r, rfl, ?_, ?_⟩))
    · unfold enc; rw [enc1 r (by omega)]
    · rcases h1 with rfl | rfl <;> simp [simple]
  rw [if_neg h1]
  simp only [Bool.or_eq_true, beq_iff_eq, not_or] at h1
  simp only [Bool.false_eq_true, if_false]
  by_cases hp : isPrint r = true
  · rw [if_pos hp]
    by_cases h8 : r < 128
    · have this := small_print r h8 hp
      refine Or.inl ⟨r, ?_, ?_, this.1, this.2, h1.1, h1.2⟩
      · exact enc1 r h8
      · exact enc1 r h8
    · exact Or.inr (Or.inl ⟨r, rfl, rfl, by omega, hg⟩)
  rw [if_neg hp]
  by_cases h7 : r = 7
  · subst h7; exact Or.inr (Or.inr (Or.inl ⟨97, 7, rfl, enc1 7 (by omega), by simp [simple]⟩))
  by_cases h8 : r = 8
  · subst h8; exact Or.inr (Or.inr (Or.inl ⟨98, 8, rfl, enc1 8 (by omega), by simp [simple]⟩))
  by_cases h12 : r = 12
  · subst h12; exact Or.inr (Or.inr (Or.inl ⟨102, 12, rfl, enc1 12 (by omega), by simp [simple]⟩))
  by_cases h10 : r = 10
  · subst h10; exact Or.inr (Or.inr (Or.inl ⟨110, 10, rfl, enc1 10 (by omega), by simp [simple]⟩))
  by_cases h13 : r = 13
  · subst h13; exact Or.inr (Or.inr (Or.inl ⟨114, 13, rfl, enc1 13 (by omega), by simp [simple]⟩))
  by_cases h9 : r = 9
  · subst h9; exact Or.inr (Or.inr (Or.inl ⟨116, 9, rfl, enc1 9 (by omega), by simp [simple]⟩))
  by_cases h11 : r = 11
  · subst h11; exact Or.inr (Or.inr (Or.inl ⟨118, 11, rfl, enc1 11 (by omega), by simp [simple]⟩))
  simp only [h7, h8, h12, h10, h13, h9, h11, beq_iff_eq, if_false]
  by_cases hx : (decide (r < 32) || r == 127) = true
  · rw [if_pos hx]
    simp only [Bool.or_eq_true, decide_eq_true_eq, beq_iff_eq] at hx
    exact Or.inr (Or.inr (Or.inr (Or.inl ⟨r, rfl, enc1 r (by omega), by omega⟩)))
  rw [if_neg hx]
  have hv := (valid_good r).2 hg
  simp only [hv, Bool.not_true, Bool.false_eq_true, if_false]
  by_cases hu : r < 65536
  · rw [if_pos hu]
    exact Or.inr (Or.inr (Or.inr (Or.inr (Or.inl ⟨r, rfl, rfl, hu, hg⟩))))
  · rw [if_neg hu]
    exact Or.inr (Or.inr (Or.inr (Or.inr (Or.inr ⟨r, rfl, rfl, hg⟩))))

theorem ofNat_eq {b : UInt8} {n : Nat} (h : n = b.toNat) : UInt8.ofNat n = b := by
  subst h; exact UInt8.ofNat_toNat

theorem get_list (l : List UInt8) (k : Nat) (h : k < l.length) : (arr l).get! k = l[k] := by
  show (arr l).data.getD k default = _
  simp [arr, Array.getD, h]

theorem len_arr (l : List UInt8) : (arr l).size = l.length := by simp [arr, ByteArray.size]

set_option maxRecDepth 100000 in
/-- What a step of the reading of runes gives, and the bytes that it has read. -/
theorem decode_step (l : List UInt8) (pos : Nat) (h : pos < l.length) :
    (Utf8.decode (arr l) pos = (65533, 1)) ∨
    (∃ r w : Nat, Utf8.decode (arr l) pos = (r, w) ∧ Good r ∧ 1 ≤ w ∧ pos + w ≤ l.length ∧ (w = 1 → r < 128) ∧ (l.drop pos).take w = enc r) := by
  have e0 := get_list l pos h
  have hb0 := (l[pos]).toNat_lt
  unfold Utf8.decode
  simp only [Nat.add_zero, e0, len_arr]
  split
  · rename_i c0
    refine Or.inr ⟨_, 1, rfl, Or.inl (by omega), by omega, by omega, fun _ => c0, ?_⟩
    rw [List.drop_eq_getElem_cons h]
    unfold enc
    rw [enc1 _ c0, ofNat_eq (b := l[pos]) rfl]
    rfl
  · split
    · rename_i c0 c1
      simp only [Bool.and_eq_true, beq_iff_eq, decide_eq_true_eq] at c1
      obtain ⟨c1, k1, c2⟩ := c1
      have e1 := get_list l (pos + 1) k1
      rw [e1] at c2 ⊢
      have hb1 := (l[pos + 1]).toNat_lt
      split
      · rename_i c3
        refine Or.inr ⟨_, 2, rfl, Or.inl (by omega), by omega, by omega, fun hh => by omega, ?_⟩
        rw [List.drop_eq_getElem_cons h, List.drop_eq_getElem_cons k1]
        unfold enc
        rw [enc2 _ (by omega) (by omega)]
        simp only [List.take_succ_cons, List.take_zero]
        rw [ofNat_eq (b := l[pos]) (by omega), ofNat_eq (b := l[pos + 1]) (by omega)]
      · exact Or.inl rfl
    · split
      · rename_i c0 c0' c1
        simp only [Bool.and_eq_true, beq_iff_eq, decide_eq_true_eq] at c1
        obtain ⟨⟨c1, k1, c2⟩, k2, c3⟩ := c1
        have e1 := get_list l (pos + 1) k1
        have e2 := get_list l (pos + 2) k2
        rw [e1] at c2 ⊢
        rw [e2] at c3 ⊢
        have hb1 := (l[pos + 1]).toNat_lt
        have hb2 := (l[pos + 2]).toNat_lt
        split
        · rename_i c4
          simp only [Bool.and_eq_true, decide_eq_true_eq] at c4
          have hg := (valid_good _).1 c4.2
          refine Or.inr ⟨_, 3, rfl, hg, by omega, by omega, fun hh => by omega, ?_⟩
          rw [List.drop_eq_getElem_cons h, List.drop_eq_getElem_cons k1, List.drop_eq_getElem_cons k2]
          unfold enc
          unfold Good at hg
          rw [enc3 _ (by omega) (by omega) (by omega)]
          simp only [List.take_succ_cons, List.take_zero]
          rw [ofNat_eq (b := l[pos]) (by omega), ofNat_eq (b := l[pos + 1]) (by omega), ofNat_eq (b := l[pos + 2]) (by omega)]
        · exact Or.inl rfl
      · split
        · rename_i c0 c0' c0'' c1
          simp only [Bool.and_eq_true, beq_iff_eq, decide_eq_true_eq] at c1
          obtain ⟨⟨⟨c1, k1, c2⟩, k2, c3⟩, k3, c4⟩ := c1
          have e1 := get_list l (pos + 1) k1
          have e2 := get_list l (pos + 2) k2
          have e3 := get_list l (pos + 3) k3
          rw [e1] at c2 ⊢
          rw [e2] at c3 ⊢
          rw [e3] at c4 ⊢
          have hb1 := (l[pos + 1]).toNat_lt
          have hb2 := (l[pos + 2]).toNat_lt
          have hb3 := (l[pos + 3]).toNat_lt
          split
          · rename_i c5
            simp only [Bool.and_eq_true, decide_eq_true_eq] at c5
            have hg := (valid_good _).1 c5.2
            refine Or.inr ⟨_, 4, rfl, hg, by omega, by omega, fun hh => by omega, ?_⟩
            rw [List.drop_eq_getElem_cons h, List.drop_eq_getElem_cons k1, List.drop_eq_getElem_cons k2, List.drop_eq_getElem_cons k3]
            unfold enc
            unfold Good at hg
            rw [enc4 _ (by omega) (by omega)]
            simp only [List.take_succ_cons, List.take_zero]
            rw [ofNat_eq (b := l[pos]) (by omega), ofNat_eq (b := l[pos + 1]) (by omega), ofNat_eq (b := l[pos + 2]) (by omega), ofNat_eq (b := l[pos + 3]) (by omega)]
          · exact Or.inl rfl
        · exact Or.inl rfl

set_option maxRecDepth 100000 in
theorem from_coded (l : List UInt8) : ∀ fuel pos : Nat, l.length ≤ pos + fuel → Coded (quoteFrom 34 false (arr l) fuel pos) (l.drop pos)
  | 0, pos, h => by
    rw [List.drop_eq_nil_of_le (by omega)]
    exact Coded.nil
  | fuel + 1, pos, h => by
    unfold quoteFrom
    rw [len_arr]
    by_cases hp : pos < l.length
    · rw [if_pos hp]
      rcases decode_step l pos hp with hd | ⟨r, w, hd, hg, h1, hw, hw1, ht⟩
      · rw [hd]
        simp only [beq_self_eq_true, Bool.and_self, if_true]
        rw [get_list l pos hp, List.drop_eq_getElem_cons hp]
        refine Coded.cons (d := [l[pos]]) (Or.inr (Or.inr (Or.inr (Or.inl ⟨(l[pos]).toNat, rfl, ?_, (l[pos]).toNat_lt⟩)))) (from_coded l fuel (pos + 1) (by omega))
        rw [ofNat_eq rfl]
      · rw [hd]
        have hne : ¬ ((w == 1 && r == 65533) = true) := by
          simp only [Bool.and_eq_true, beq_iff_eq]
          rintro ⟨a, b⟩
          have := hw1 a
          omega
        simp only [hne]
        have hs : l.drop pos = enc r ++ l.drop (pos + w) := by
          rw [← ht, ← List.drop_drop, List.take_append_drop]
        rw [hs]
        exact Coded.cons (esc_item r hg) (from_coded l fuel (pos + w) (by omega))
    · rw [if_neg hp, List.drop_eq_nil_of_le (by omega)]
      exact Coded.nil

/-- THE PLAIN LAW: a quoted text is a quote, items that stand for the bytes, a quote. -/
theorem quote_coded (l : List UInt8) : ∃ q, quote false l = 34 :: (q ++ [34]) ∧ Coded q l :=
  ⟨quoteFrom 34 false (arr l) l.length 0, rfl, from_coded l l.length 0 (by omega)⟩

end Go.Proofs.YtfldnaoaepbgiaaFmt.Plain
