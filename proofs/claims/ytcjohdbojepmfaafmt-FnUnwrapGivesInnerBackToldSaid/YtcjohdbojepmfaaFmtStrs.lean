/- Contracts of zzHasPrefix and zzHasSuffix where they answer true: the second string stands at the head, at the end, of the first. -/
import Derived.Test.YtcjohdbojepmfaaFmtWalks
import Derived.LoopTactic
import Derived.IntWalk
namespace Go.Proofs.YtcjohdbojepmfaaFmt
open Go.RowKit Go.Extern.Stop Go.Stop Go.Extern
set_option linter.unusedVariables false

theorem Below.drewMany {B : Nat} {a w : World} (h : Below B a w) (n : Nat) : Below B a (w.drewN n) := ⟨h.os, h.tape, h.output, h.size, h.block⟩

theorem get_at (s : ByteArray) (k : Nat) (h : k < s.size) : s.data.toList[k]? = some s[k] := by
  have h' : k < s.data.size := h
  rw [Array.getElem?_toList, Array.getElem?_eq_getElem h']
  rfl

theorem bytes_size (s : ByteArray) : s.data.toList.length = s.size := by rw [Array.length_toList]; rfl

theorem pre_at {s p : ByteArray} {r : List UInt8} (h : s.data.toList = p.data.toList ++ r) (k : Nat) (h1 : k < p.size) (h2 : k < s.size) : s[k] = p[k] := by
  have e1 := get_at s k h2
  have e2 := get_at p k h1
  rw [h, List.getElem?_append_left (by rw [bytes_size]; exact h1), e2] at e1
  exact (Option.some.inj e1).symm

theorem suf_at {s p : ByteArray} {r : List UInt8} (h : s.data.toList = r ++ p.data.toList) (k : Nat) (h1 : k < p.size) (h2 : s.size - p.size + k < s.size) : s[s.size - p.size + k] = p[k] := by
  have e1 := get_at s _ h2
  have e2 := get_at p k h1
  have hl : s.size = r.length + p.size := by rw [← bytes_size s, ← bytes_size p, h, List.length_append]
  have hi : s.size - p.size + k = r.length + k := by omega
  rw [h, List.getElem?_append_right (by omega), show s.size - p.size + k - r.length = k by omega, e2] at e1
  exact (Option.some.inj e1).symm

theorem hasPrefix_yes (s p : ByteArray) (r : List UInt8) (w : World) (h2 : s.size ≤ 9223372036854775807) (hp : s.data.toList = p.data.toList ++ r) :
    Calls Tryf.prog 9 #[.string s, .string p] w fun e w' => e = .returned (.bool true) ∧ Below w.heap.size w w' := by
  have h1 : p.size ≤ s.size := by rw [← bytes_size s, ← bytes_size p, hp, List.length_append]; omega
  have Hp := Lib.hid hp
  clear hp
  go_enter Tryf.func9, Tryf.ntmps9
  go_wp2
  go_loopw [5] (fun i wr => ∃ k : Nat, k ≤ p.size ∧ i = .int .i64 k ∧ Below w.heap.size w wr) (fun i _ => p.size - (intOf i).toNat)
  case atStart => exact ⟨0, Nat.zero_le _, rfl, Below.refl _ _⟩
  case round =>
    obtain ⟨k, hk, rfl, hb⟩ := hrel
    have HB := Lib.hid hb
    clear hb
    by_cases hlt : k < p.size
    · have hks : k < s.size := by omega
      have hkI : (k : Int) < (p.size : Int) := by omega
      have hkS : (k : Int) < (s.size : Int) := by omega
      go_wp2
      go_quiet (fail)
      have hx : ((s[k].toNat : Int) != (p[k].toNat : Int)) = false := by rw [pre_at Hp.out k hlt hks]; simp
      go_wp2
      go_roundw
      case rel => exact ⟨k + 1, by omega, by go_num, Below.drewMany HB.out _⟩
      case measure => simp [intOf]; omega
    · go_wp2
      go_ret
      exact ⟨rfl, HB.out⟩

theorem hasSuffix_yes (s p : ByteArray) (r : List UInt8) (w : World) (h2 : s.size ≤ 9223372036854775807) (hp : s.data.toList = r ++ p.data.toList) :
    Calls Tryf.prog 10 #[.string s, .string p] w fun e w' => e = .returned (.bool true) ∧ Below w.heap.size w w' := by
  have h1 : p.size ≤ s.size := by rw [← bytes_size s, ← bytes_size p, hp, List.length_append]; omega
  have Hp := Lib.hid hp
  clear hp
  go_enter Tryf.func10, Tryf.ntmps10
  go_wp2
  go_loopw [6] (fun i wr => ∃ k : Nat, k ≤ p.size ∧ i = .int .i64 k ∧ Below w.heap.size w wr) (fun i _ => p.size - (intOf i).toNat)
  case atStart => exact ⟨0, Nat.zero_le _, rfl, Below.refl _ _⟩
  case round =>
    obtain ⟨k, hk, rfl, hb⟩ := hrel
    have HB := Lib.hid hb
    clear hb
    by_cases hlt : k < p.size
    · have hks : s.size - p.size + k < s.size := by omega
      have hkI : (k : Int) < (p.size : Int) := by omega
      have j1 : (0 : Int) ≤ (s.size : Int) - (p.size : Int) + (k : Int) := by omega
      have j2 : (s.size : Int) - (p.size : Int) + (k : Int) < (s.size : Int) := by omega
      go_wp2
      have j3 : IntKind.i64.wrap ((s.size : Int) - (p.size : Int) + (k : Int)) = (s.size : Int) - (p.size : Int) + (k : Int) := IntWalk.i64_in _ (by omega)
      have j4 : ((s.size : Int) - (p.size : Int) + (k : Int)).toNat = s.size - p.size + k := by omega
      go_quiet (fail)
      clear j3
      have hx : ((s[s.size - p.size + k].toNat : Int) != (p[k].toNat : Int)) = false := by rw [suf_at Hp.out k hlt hks]; simp
      go_wp2
      go_roundw
      case rel => exact ⟨k + 1, by omega, by go_num, Below.drewMany HB.out _⟩
      case measure => simp [intOf]; omega
    · go_wp2
      go_ret
      exact ⟨rfl, HB.out⟩
end Go.Proofs.YtcjohdbojepmfaaFmt
