/- The contract of zzUTF8Len where the bytes are the UTF-8 of a rune of two bytes or more: their number. -/
import Derived.Test.YtfldnaoaepbgiaaFmtApp
namespace Go.Proofs.YtfldnaoaepbgiaaFmt
open Go.RowKit Go.Extern.Stop Go.Stop Go.Extern
set_option linter.unusedVariables false

theorem m31 (x : Int) (h0 : 0 ≤ x) (h1 : x < 32) : bits .and .u8 (192 + x) 31 = x := by
  obtain ⟨n, rfl⟩ := Int.eq_ofNat_of_zero_le h0
  have := u8_and_mask (192 + n) 31 5 (by omega) (by omega) (by decide)
  rw [show (192 + n) % 2 ^ 5 = n by omega] at this
  simpa using this
theorem m15 (x : Int) (h0 : 0 ≤ x) (h1 : x < 16) : bits .and .u8 (224 + x) 15 = x := by
  obtain ⟨n, rfl⟩ := Int.eq_ofNat_of_zero_le h0
  have := u8_and_mask (224 + n) 15 4 (by omega) (by omega) (by decide)
  rw [show (224 + n) % 2 ^ 4 = n by omega] at this
  simpa using this
theorem m7 (x : Int) (h0 : 0 ≤ x) (h1 : x < 8) : bits .and .u8 (240 + x) 7 = x := by
  obtain ⟨n, rfl⟩ := Int.eq_ofNat_of_zero_le h0
  have := u8_and_mask (240 + n) 7 3 (by omega) (by omega) (by decide)
  rw [show (240 + n) % 2 ^ 3 = n by omega] at this
  simpa using this
theorem m63 (x : Int) (h0 : 0 ≤ x) (h1 : x < 64) : bits .and .u8 (128 + x) 63 = x := by
  obtain ⟨n, rfl⟩ := Int.eq_ofNat_of_zero_le h0
  have := u8_and_mask (128 + n) 63 6 (by omega) (by omega) (by decide)
  rw [show (128 + n) % 2 ^ 6 = n by omega] at this
  simpa using this
theorem m192 (x : Int) (h0 : 0 ≤ x) (h1 : x < 64) : bits .and .u8 (128 + x) 192 = 128 := by
  obtain ⟨n, rfl⟩ := Int.eq_ofNat_of_zero_le h0
  have := u8_and192 (128 + n) (by omega)
  rw [show (128 + n) / 64 * 64 = 128 by omega] at this
  simpa using this
theorem or64 (a x : Int) (ha0 : 0 ≤ a) (ha1 : a < 262144) (h0 : 0 ≤ x) (h1 : x < 64) : bits .or .i64 (a * 64) x = a * 64 + x := by
  obtain ⟨n, rfl⟩ := Int.eq_ofNat_of_zero_le h0
  obtain ⟨m, rfl⟩ := Int.eq_ofNat_of_zero_le ha0
  have := i64_or 6 (m * 64) n (by omega) (by omega) (by omega) (by omega)
  simpa using this

set_option maxRecDepth 100000 in
set_option maxHeartbeats 1600000 in
theorem ulen2 (q : ByteArray) (i : Nat) (r : Int) (w : World) (h1 : 128 ≤ r) (h2 : r < 2048) (hi : i + 2 ≤ q.size) (hq : q.size ≤ 4194304)
    (x0 : ((q[i].toNat : Nat) : Int) = 192 + r / 64) (x1 : ((q[i + 1].toNat : Nat) : Int) = 128 + r % 64) :
    Calls Tryf.prog 8 #[.string q, .int .i64 (i : Int)] w fun e w' => e = .returned (.int .i64 2) ∧ w = w' := by
  have f0 := m31 (r / 64) (by omega) (by omega)
  have f1 := m63 (r % 64) (by omega) (by omega)
  have f2 := m192 (r % 64) (by omega) (by omega)
  have f3 := or64 (r / 64) (r % 64) (by omega) (by omega) (by omega) (by omega)
  go_enter Tryf.func8, Tryf.ntmps8
  go_wp2
  go_rounds 3
  go_ret
  exact ⟨rfl, rfl⟩

set_option maxRecDepth 100000 in
set_option maxHeartbeats 1600000 in
theorem ulen3a (q : ByteArray) (i : Nat) (r : Int) (w : World) (h1 : 2048 ≤ r) (h2 : r < 55296) (hi : i + 3 ≤ q.size) (hq : q.size ≤ 4194304)
    (x0 : ((q[i].toNat : Nat) : Int) = 224 + r / 4096) (x1 : ((q[i + 1].toNat : Nat) : Int) = 128 + r / 64 % 64) (x2 : ((q[i + 2].toNat : Nat) : Int) = 128 + r % 64) :
    Calls Tryf.prog 8 #[.string q, .int .i64 (i : Int)] w fun e w' => e = .returned (.int .i64 3) ∧ w = w' := by
  have f0 := m15 (r / 4096) (by omega) (by omega)
  have f1 := m63 (r / 64 % 64) (by omega) (by omega)
  have f2 := m192 (r / 64 % 64) (by omega) (by omega)
  have f3 := m63 (r % 64) (by omega) (by omega)
  have f4 := m192 (r % 64) (by omega) (by omega)
  have f5 := or64 (r / 4096) (r / 64 % 64) (by omega) (by omega) (by omega) (by omega)
  have f6 := or64 (r / 4096 * 64 + r / 64 % 64) (r % 64) (by omega) (by omega) (by omega) (by omega)
  go_enter Tryf.func8, Tryf.ntmps8
  go_wp2
  go_rounds 4
  go_ret
  exact ⟨rfl, rfl⟩

set_option maxRecDepth 100000 in
set_option maxHeartbeats 1600000 in
theorem ulen3b (q : ByteArray) (i : Nat) (r : Int) (w : World) (h1 : 57344 ≤ r) (h2 : r < 65536) (hi : i + 3 ≤ q.size) (hq : q.size ≤ 4194304)
    (x0 : ((q[i].toNat : Nat) : Int) = 224 + r / 4096) (x1 : ((q[i + 1].toNat : Nat) : Int) = 128 + r / 64 % 64) (x2 : ((q[i + 2].toNat : Nat) : Int) = 128 + r % 64) :
    Calls Tryf.prog 8 #[.string q, .int .i64 (i : Int)] w fun e w' => e = .returned (.int .i64 3) ∧ w = w' := by
  have f0 := m15 (r / 4096) (by omega) (by omega)
  have f1 := m63 (r / 64 % 64) (by omega) (by omega)
  have f2 := m192 (r / 64 % 64) (by omega) (by omega)
  have f3 := m63 (r % 64) (by omega) (by omega)
  have f4 := m192 (r % 64) (by omega) (by omega)
  have f5 := or64 (r / 4096) (r / 64 % 64) (by omega) (by omega) (by omega) (by omega)
  have f6 := or64 (r / 4096 * 64 + r / 64 % 64) (r % 64) (by omega) (by omega) (by omega) (by omega)
  go_enter Tryf.func8, Tryf.ntmps8
  go_wp2
  go_rounds 4
  go_ret
  exact ⟨rfl, rfl⟩

set_option maxRecDepth 100000 in
set_option maxHeartbeats 1600000 in
theorem ulen4 (q : ByteArray) (i : Nat) (r : Int) (w : World) (h1 : 65536 ≤ r) (h2 : r < 1114112) (hi : i + 4 ≤ q.size) (hq : q.size ≤ 4194304)
    (x0 : ((q[i].toNat : Nat) : Int) = 240 + r / 262144) (x1 : ((q[i + 1].toNat : Nat) : Int) = 128 + r / 4096 % 64) (x2 : ((q[i + 2].toNat : Nat) : Int) = 128 + r / 64 % 64) (x3 : ((q[i + 3].toNat : Nat) : Int) = 128 + r % 64) :
    Calls Tryf.prog 8 #[.string q, .int .i64 (i : Int)] w fun e w' => e = .returned (.int .i64 4) ∧ w = w' := by
  have f0 := m7 (r / 262144) (by omega) (by omega)
  have f1 := m63 (r / 4096 % 64) (by omega) (by omega)
  have f2 := m192 (r / 4096 % 64) (by omega) (by omega)
  have f3 := m63 (r / 64 % 64) (by omega) (by omega)
  have f4 := m192 (r / 64 % 64) (by omega) (by omega)
  have f5 := m63 (r % 64) (by omega) (by omega)
  have f6 := m192 (r % 64) (by omega) (by omega)
  have f7 := or64 (r / 262144) (r / 4096 % 64) (by omega) (by omega) (by omega) (by omega)
  have f8 := or64 (r / 262144 * 64 + r / 4096 % 64) (r / 64 % 64) (by omega) (by omega) (by omega) (by omega)
  have f9 := or64 ((r / 262144 * 64 + r / 4096 % 64) * 64 + r / 64 % 64) (r % 64) (by omega) (by omega) (by omega) (by omega)
  go_enter Tryf.func8, Tryf.ntmps8
  go_wp2
  go_rounds 5
  go_ret
  exact ⟨rfl, rfl⟩

theorem at_byte {q : ByteArray} {i j n : Nat} {l r : List UInt8} (h : q.data.toList.drop i = l ++ r) (hl : l[j]? = some (UInt8.ofNat n)) (hn : n < 256) : ∃ hj : i + j < q.size, ((q[i + j].toNat : Nat) : Int) = (n : Int) := by
  obtain ⟨hj, e⟩ := at_drop h hl
  exact ⟨hj, by rw [e]; exact byte_nat n hn⟩

set_option maxRecDepth 100000 in
theorem ulen_any (q : ByteArray) (i R : Nat) (rest : List UInt8) (w : World) (hw : Plain.Wide R) (hq : q.size ≤ 4194304) (hd : q.data.toList.drop i = Plain.enc R ++ rest) :
    Calls Tryf.prog 8 #[.string q, .int .i64 (i : Int)] w fun e w' => e = .returned (.int .i64 ((Plain.enc R).length : Int)) ∧ w = w' := by
  obtain ⟨h1, hg⟩ := hw
  by_cases h2 : R < 2048
  · have e : Plain.enc R = _ := FmtText.enc2 R (by omega) (by omega)
    rw [e] at hd ⊢
    obtain ⟨k0, x0⟩ := at_byte (j := 0) hd rfl (by omega)
    obtain ⟨k1, x1⟩ := at_byte (j := 1) hd rfl (by omega)
    exact ulen2 q i R w (by omega) (by omega) (by omega) hq (by rw [show (q[i].toNat : Int) = _ from x0]; omega) (by rw [x1]; omega)
  by_cases h3 : R < 65536
  · have e : Plain.enc R = _ := FmtText.enc3 R (by omega) (by omega) (by omega)
    rw [e] at hd ⊢
    obtain ⟨k0, x0⟩ := at_byte (j := 0) hd rfl (by omega)
    obtain ⟨k1, x1⟩ := at_byte (j := 1) hd rfl (by omega)
    obtain ⟨k2, x2⟩ := at_byte (j := 2) hd rfl (by omega)
    by_cases h4 : R < 55296
    · exact ulen3a q i R w (by omega) (by omega) (by omega) hq (by rw [show (q[i].toNat : Int) = _ from x0]; omega) (by rw [x1]; omega) (by rw [x2]; omega)
    · exact ulen3b q i R w (by omega) (by omega) (by omega) hq (by rw [show (q[i].toNat : Int) = _ from x0]; omega) (by rw [x1]; omega) (by rw [x2]; omega)
  · have e : Plain.enc R = _ := FmtText.enc4 R (by omega) (by omega)
    rw [e] at hd ⊢
    obtain ⟨k0, x0⟩ := at_byte (j := 0) hd rfl (by omega)
    obtain ⟨k1, x1⟩ := at_byte (j := 1) hd rfl (by omega)
    obtain ⟨k2, x2⟩ := at_byte (j := 2) hd rfl (by omega)
    obtain ⟨k3, x3⟩ := at_byte (j := 3) hd rfl (by omega)
    exact ulen4 q i R w (by omega) (by omega) (by omega) hq (by rw [show (q[i].toNat : Int) = _ from x0]; omega) (by rw [x1]; omega) (by rw [x2]; omega) (by rw [x3]; omega)
end Go.Proofs.YtfldnaoaepbgiaaFmt
