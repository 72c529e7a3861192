/- Contracts of zzHexVal and zzHexN where the bytes are lower-case hex digits. -/
import Derived.Test.YtfldnaoaepbgiaaFmtCards
import Derived.Test.YtfldnaoaepbgiaaFmtFmt
import Derived.Test.YtfldnaoaepbgiaaFmtPlain
import Derived.WalkKit
import Derived.WalkSpells
import Derived.Handy
import Derived.BigQuiet
import Derived.Deep.QuietTactic
import Derived.Deep.RegionWith
import Derived.LoopTactic
import Derived.IntWalk
namespace Go.Proofs.YtfldnaoaepbgiaaFmt
open Go.RowKit Go.Extern.Stop Go.Stop Go.Extern
set_option linter.unusedVariables false

theorem hexVal_lo (c : Int) (w : World) (h0 : 48 ≤ c) (h1 : c ≤ 57) :
    Calls Tryf.prog 12 #[.int .u8 c] w fun e w' => e = .returned (.int .i64 (c - 48)) ∧ w = w' := by
  go_enter Tryf.func12, Tryf.ntmps12
  go_wp2
  go_ret
  exact ⟨rfl, rfl⟩

theorem hexVal_hi (c : Int) (w : World) (h0 : 97 ≤ c) (h1 : c ≤ 102) :
    Calls Tryf.prog 12 #[.int .u8 c] w fun e w' => e = .returned (.int .i64 (c - 97 + 10)) ∧ w = w' := by
  go_enter Tryf.func12, Tryf.ntmps12
  go_wp2
  go_ret
  exact ⟨rfl, rfl⟩
theorem hexVal_any (c : Int) (d : Nat) (w : World) (hd : d < 16) (hc : c = if d < 10 then 48 + (d : Int) else 87 + (d : Int)) :
    Calls Tryf.prog 12 #[.int .u8 c] w fun e w' => e = .returned (.int .i64 (d : Int)) ∧ w = w' := by
  by_cases h : d < 10
  · rw [if_pos h] at hc
    refine (hexVal_lo c w (by omega) (by omega)).mono fun e w' ⟨he, hw⟩ => ⟨?_, hw⟩
    rw [he, show c - 48 = (d : Int) by omega]
  · rw [if_neg h] at hc
    refine (hexVal_hi c w (by omega) (by omega)).mono fun e w' ⟨he, hw⟩ => ⟨?_, hw⟩
    rw [he, show c - 97 + 10 = (d : Int) by omega]

theorem digit_int (d : Nat) (h : d < 16) : ((FmtText.digit false d).toNat : Int) = if d < 10 then 48 + (d : Int) else 87 + (d : Int) := by
  unfold FmtText.digit
  by_cases h1 : d < 10
  · simp only [h1, if_true]
    rw [UInt8.toNat_ofNat']
    omega
  · simp only [h1, if_false, Bool.false_eq_true]
    rw [UInt8.toNat_ofNat']
    omega

theorem hex_len (V k : Nat) : (FmtText.hexDigits V k).length = k := by
  induction k with
  | zero => rfl
  | succ n ih => simp [FmtText.hexDigits, ih]

theorem hex_get (V : Nat) : ∀ (k j : Nat), j < k → (FmtText.hexDigits V k)[j]? = some (FmtText.digit false (V / 16 ^ (k - 1 - j) % 16))
  | k + 1, 0, h => by simp [FmtText.hexDigits]
  | k + 1, j + 1, h => by
    have ih := hex_get V k j (by omega)
    simp only [FmtText.hexDigits, List.getElem?_cons_succ, ih]
    rw [show k + 1 - 1 - (j + 1) = k - 1 - j by omega]

theorem get_at (s : ByteArray) (k : Nat) (h : k < s.size) : s.data.toList[k]? = some s[k] := by
  have h' : k < s.data.size := h
  rw [Array.getElem?_toList, Array.getElem?_eq_getElem h']
  rfl

theorem bytes_size (s : ByteArray) : s.data.toList.length = s.size := by rw [Array.length_toList]; rfl

/-- A byte of a text that is known from a place on. -/
theorem at_drop {q : ByteArray} {i j : Nat} {l r : List UInt8} {b : UInt8} (h : q.data.toList.drop i = l ++ r) (hl : l[j]? = some b) : ∃ hj : i + j < q.size, q[i + j] = b := by
  have hj : j < l.length := by
    rcases Nat.lt_or_ge j l.length with h' | h'
    · exact h'
    · rw [List.getElem?_eq_none h'] at hl; cases hl
  have e : q.data.toList[i + j]? = some b := by
    rw [← List.getElem?_drop, h, List.getElem?_append_left hj, hl]
  have hi : i + j < q.size := by
    rw [← bytes_size]
    rcases Nat.lt_or_ge (i + j) q.data.toList.length with h' | h'
    · exact h'
    · rw [List.getElem?_eq_none h'] at e; cases e
  refine ⟨hi, ?_⟩
  rw [get_at q _ hi] at e
  exact Option.some.inj e

theorem hex_step (V m : Nat) : V / 16 ^ (m + 1) * 16 + V / 16 ^ m % 16 = V / 16 ^ m := by
  rw [Nat.pow_succ, ← Nat.div_div_eq_div_mul]
  omega

theorem hex_bound (V k m : Nat) (hV : V < 16 ^ k) (hm : m ≤ k) : V / 16 ^ (k - m) < 16 ^ m := by
  rw [Nat.div_lt_iff_lt_mul (Nat.pow_pos (by omega)), ← Nat.pow_add, show m + (k - m) = k by omega]
  exact hV

/-- The number that the first j of the k digits of V write. -/
def hpre (V k j : Nat) : Nat := V / 16 ^ (k - j)
/-- The j-th of the k digits of V. -/
def hdig (V k j : Nat) : Nat := V / 16 ^ (k - 1 - j) % 16

theorem hdig_lt (V k j : Nat) : hdig V k j < 16 := Nat.mod_lt _ (by omega)
theorem hpre_zero (V k : Nat) (h : V < 16 ^ k) : hpre V k 0 = 0 := by unfold hpre; exact Nat.div_eq_of_lt h
theorem hpre_all (V k : Nat) : hpre V k k = V := by unfold hpre; simp
theorem hpre_step (V k j : Nat) (h : j < k) : hpre V k j * 16 + hdig V k j = hpre V k (j + 1) := by
  unfold hpre hdig
  have e := hex_step V (k - 1 - j)
  rw [show k - 1 - j + 1 = k - j by omega] at e
  rw [show k - (j + 1) = k - 1 - j by omega]
  exact e
theorem hpre_lt (V k j : Nat) (h : V < 16 ^ k) (hj : j ≤ k) (hk : k ≤ 8) : hpre V k j < 4294967296 := by
  unfold hpre
  refine Nat.lt_of_lt_of_le (hex_bound V k j h hj) ?_
  have : 16 ^ j ≤ 16 ^ 8 := Nat.pow_le_pow_right (by omega) (by omega)
  exact this

set_option maxHeartbeats 800000 in
theorem hexN_any (q : ByteArray) (i k V : Nat) (r : List UInt8) (w : World) (hk1 : 1 ≤ k) (hk : k ≤ 8) (hV : V < 16 ^ k) (hq : q.size ≤ 4194304) (hd : q.data.toList.drop i = FmtText.hexDigits V k ++ r) :
    Calls Tryf.prog 9 #[.string q, .int .i64 (i : Int), .int .i64 (k : Int)] w fun e w' => e = .returned (.int .i64 (V : Int)) ∧ w = w' := by
  have hb : i + k ≤ q.size := by
    obtain ⟨h1, _⟩ := at_drop hd (hex_get V k (k - 1) (by omega))
    omega
  have HD := Lib.hid hd
  have HV := Lib.hid hV
  clear hd hV
  go_enter Tryf.func9, Tryf.ntmps9
  go_wp2
  go_loop [7, 8] (fun v j => ∃ m : Nat, m ≤ k ∧ j = .int .i64 (m : Int) ∧ v = .int .i64 (hpre V k m : Int)) (fun _ j => k - (intOf j).toNat)
  case atStart => exact ⟨0, Nat.zero_le _, rfl, by rw [hpre_zero V k HV.out]; rfl⟩
  case round =>
    obtain ⟨m, hm, rfl, rfl⟩ := hrel
    have hp := hpre_lt V k m HV.out hm hk
    by_cases hlt : m < k
    · have hdl := hdig_lt V k m
      have HS := Lib.hid (hpre_step V k m hlt)
      obtain ⟨hj, hx⟩ := at_drop HD.out (hex_get V k m hlt)
      have HQ : Hid (((q[i + m].toNat : Nat) : Int) = if hdig V k m < 10 then 48 + (hdig V k m : Int) else 87 + (hdig V k m : Int)) := by rw [hx]; exact digit_int _ hdl
      clear hx
      go_wp2_with (go_at_call 12; refine (hexVal_any _ (hdig V k m) _ hdl HQ.out).mono ?_; rintro e w' ⟨rfl, rfl⟩)
      go_round
      case rel => exact ⟨m + 1, by omega, by go_num, by rw [← HS.out]; go_num⟩
      case measure => simp [intOf]; omega
    · go_wp2
      go_ret
      obtain rfl : m = k := by omega
      exact ⟨by rw [hpre_all]; rfl, rfl⟩
end Go.Proofs.YtfldnaoaepbgiaaFmt
