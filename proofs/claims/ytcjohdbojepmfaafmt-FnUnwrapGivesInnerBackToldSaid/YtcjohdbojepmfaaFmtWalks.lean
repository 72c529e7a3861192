/- Contracts over the translated code of this seat, for every F that stands for fmt: fmt.Sprintf at strings and ints, Errorf, FormatError. -/
import Derived.Test.YtcjohdbojepmfaaFmtCards
import Derived.Test.YtcjohdbojepmfaaFmtFmt
import Derived.WalkKit
import Derived.WalkSpells
import Derived.Handy
import Derived.BigQuiet
import Derived.Deep.QuietTactic
import Derived.Deep.RegionWith
import Derived.Stop.Texts
import Derived.Stop.Told
import Derived.Stop.FmtTextKit
namespace Go.Proofs.YtcjohdbojepmfaaFmt
open Go.RowKit Go.Extern.Stop Go.Stop Go.Extern
set_option linter.unusedVariables false

def sReading (m : List UInt8) : List (List UInt8) := [[37, 115], Tryf.shape9, FmtStop.pack m]
def ssReading (m n : List UInt8) : List (List UInt8) := [[37, 115, 58, 32, 37, 115], Tryf.shape9, FmtStop.pack m, Tryf.shape9, FmtStop.pack n]
def posReading (l c : Int) : List (List UInt8) := [[37, 100, 58, 37, 100, 58], Tryf.shape3, digits 8 (l % 18446744073709551616).toNat, Tryf.shape3, digits 8 (c % 18446744073709551616).toNat]

theorem sp1 (F : Interp) (m : ByteArray) (b : Nat) (w : World) (R : Value → World → Prop) (hF : F.answers w.tape)
    (h0 : w.cell? ⟨b, 0, none⟩ = some (.iface 9 (.string m))) (h : R (.string (FmtStop.textOf (F "fmt.Sprintf" (sReading m.data.toList) 0))) w.drew) :
    Rows Tryf.prog FmtCalls.turnsRow (FmtCalls.save 0 0 (.slice (some ⟨b, 0, none⟩) 1 1) ⟨#[37, 115]⟩ [] [(0, 115, false)]) w R := by
  have hF' := answers_open hF
  refine rows_value Tryf.nextTurns ?_ h
  go_simp
  exact rfl

theorem sp2 (F : Interp) (m n : ByteArray) (b : Nat) (w : World) (R : Value → World → Prop) (hF : F.answers w.tape)
    (h0 : w.cell? ⟨b, 0, none⟩ = some (.iface 9 (.string m))) (h1 : w.cell? ⟨b, 1, none⟩ = some (.iface 9 (.string n))) (h : R (.string (FmtStop.textOf (F "fmt.Sprintf" (ssReading m.data.toList n.data.toList) 0))) w.drew) :
    Rows Tryf.prog FmtCalls.turnsRow (FmtCalls.save 0 0 (.slice (some ⟨b, 0, none⟩) 2 2) ⟨#[37, 115, 58, 32, 37, 115]⟩ [] [(0, 115, false), (1, 115, false)]) w R := by
  have hF' := answers_open hF
  refine rows_value Tryf.nextTurns ?_ h
  go_simp
  exact rfl

theorem sp3 (F : Interp) (l c : Int) (b : Nat) (w : World) (R : Value → World → Prop) (hF : F.answers w.tape)
    (h0 : w.cell? ⟨b, 0, none⟩ = some (.iface 3 (.int .i64 l))) (h1 : w.cell? ⟨b, 1, none⟩ = some (.iface 3 (.int .i64 c))) (h : R (.string (FmtStop.textOf (F "fmt.Sprintf" (posReading l c) 0))) w.drew) :
    Rows Tryf.prog FmtCalls.turnsRow (FmtCalls.save 0 0 (.slice (some ⟨b, 0, none⟩) 2 2) ⟨#[37, 100, 58, 37, 100, 58]⟩ [] [(0, 100, false), (1, 100, false)]) w R := by
  have hF' := answers_open hF
  refine rows_value Tryf.nextTurns ?_ h
  go_simp
  exact rfl

set_option maxHeartbeats 800000 in
theorem errorf_s (F : Interp) (fn m : ByteArray) (off l c : Int) (b : Nat) (w : World) (hF : F.answers w.tape) (hb : b < w.heap.size)
    (h0 : w.cell? ⟨b, 0, none⟩ = some (.iface 9 (.string m))) :
    Calls Tryf.prog 13 #[.agg #[.string fn, .int .i64 off, .int .i64 l, .int .i64 c], .string ⟨#[37, 115]⟩, .slice (some ⟨b, 0, none⟩) 1 1] w fun e w' =>
      e = .returned (.iface 25 (.pointer (some ⟨w.heap.size + 1, 0, none⟩))) ∧
      w' = ((w.alloc (.cells #[.string fn, .int .i64 off, .int .i64 l, .int .i64 c] 24)).alloc (.cells #[.string (FmtStop.textOf (F "fmt.Sprintf" (sReading m.data.toList) 0)), .string fn, .int .i64 off, .int .i64 l, .int .i64 c] 29)).drew.drew := by
  have b1 : b < w.heap.size + 1 := by omega
  have b2 : b < w.heap.size + 1 + 1 := by omega
  go_enter Tryf.func13, Tryf.ntmps13
  go_wp2
  go_region_with ((with_reducible refine sp1 F m b _ _ ?_ ?_ ?_); (focus (exact hF)); (focus (go_simp)))
  all_goals
    go_wp2
    go_ret
    exact ⟨rfl, rfl⟩

theorem ne_size (s : ByteArray) (h : 0 < s.size) : s.toList.isEmpty = false := by
  rw [ByteArray.toList_eq]
  cases s with
  | mk d => cases d with
    | mk l => cases l with
      | nil => simp [ByteArray.size] at h
      | cons a r => rfl

theorem size_ne {s : ByteArray} (h : s.toList.isEmpty = false) : 0 < s.size := by
  rw [ByteArray.toList_eq] at h
  cases s with
  | mk d => cases d with
    | mk l => cases l with
      | nil => simp at h
      | cons a r => simp [ByteArray.size]

theorem size_zero {s : ByteArray} (h : s.size = 0) : s = ⟨#[]⟩ := by
  cases s with
  | mk d => cases d with
    | mk l => cases l with
      | nil => rfl
      | cons a r => simp [ByteArray.size] at h

set_option maxHeartbeats 1600000 in
theorem fe_el (F : Interp) (msg T : ByteArray) (off l c : Int) (b : Nat) (w : World) (hF : F.answers w.tape)
    (hb : b < w.heap.size) (h0 : w.cell? ⟨b, 0, none⟩ = some (.string msg)) (h1 : w.cell? ⟨b, 1, none⟩ = some (.string ⟨#[]⟩)) (h2 : w.cell? ⟨b, 2, none⟩ = some (.int .i64 off)) (h3 : w.cell? ⟨b, 3, none⟩ = some (.int .i64 l)) (h4 : w.cell? ⟨b, 4, none⟩ = some (.int .i64 c))
    (hl : (l != 0) = true) (hs : msg.size ≤ 4194304) (hT0 : T.size ≤ 1000) (hT1 : T.toList.isEmpty = false) (hT : FmtStop.textOf (F "fmt.Sprintf" (posReading l c) 0) = T) :
    Calls Tryf.prog 35 #[.iface 25 (.pointer (some ⟨b, 0, none⟩))] w fun e w' => e = .returned (.string (((⟨#[]⟩ : ByteArray) ++ T) ++ (⟨#[32]⟩ ++ msg))) ∧ Below w.heap.size w w' := by
  have b1 : b < w.heap.size + 1 := by omega
  have b2 : b < w.heap.size + 1 + 1 := by omega
  have b3 : b < w.heap.size + 1 + 1 + 1 := by omega
  have b4 : b < w.heap.size + 1 + 1 + 1 + 1 := by omega
  have hne : ((⟨#[]⟩ : ByteArray) ++ T).toList.isEmpty = false := ne_size _ (by have := size_ne hT1; simp [ByteArray.size_append]; omega)
  go_enter Tryf.func35, Tryf.ntmps35
  go_wp2_with (first | ((with_reducible refine sp3 F l c _ _ _ ?_ ?_ ?_ ?_); (focus (exact hF)); (focus (go_simp)); (focus (go_simp))) | go_in | go_invoke)
  go_ret
  exact ⟨rfl, by go_grown⟩

set_option maxHeartbeats 1600000 in
theorem fe_ec (F : Interp) (msg T : ByteArray) (off l c : Int) (b : Nat) (w : World) (hF : F.answers w.tape)
    (hb : b < w.heap.size) (h0 : w.cell? ⟨b, 0, none⟩ = some (.string msg)) (h1 : w.cell? ⟨b, 1, none⟩ = some (.string ⟨#[]⟩)) (h2 : w.cell? ⟨b, 2, none⟩ = some (.int .i64 off)) (h3 : w.cell? ⟨b, 3, none⟩ = some (.int .i64 l)) (h4 : w.cell? ⟨b, 4, none⟩ = some (.int .i64 c))
    (hl : (l != 0) = false) (hc : (c != 0) = true) (hs : msg.size ≤ 4194304) (hT0 : T.size ≤ 1000) (hT1 : T.toList.isEmpty = false) (hT : FmtStop.textOf (F "fmt.Sprintf" (posReading l c) 0) = T) :
    Calls Tryf.prog 35 #[.iface 25 (.pointer (some ⟨b, 0, none⟩))] w fun e w' => e = .returned (.string (((⟨#[]⟩ : ByteArray) ++ T) ++ (⟨#[32]⟩ ++ msg))) ∧ Below w.heap.size w w' := by
  have b1 : b < w.heap.size + 1 := by omega
  have b2 : b < w.heap.size + 1 + 1 := by omega
  have b3 : b < w.heap.size + 1 + 1 + 1 := by omega
  have b4 : b < w.heap.size + 1 + 1 + 1 + 1 := by omega
  have hne : ((⟨#[]⟩ : ByteArray) ++ T).toList.isEmpty = false := ne_size _ (by have := size_ne hT1; simp [ByteArray.size_append]; omega)
  go_enter Tryf.func35, Tryf.ntmps35
  go_wp2_with (first | ((with_reducible refine sp3 F l c _ _ _ ?_ ?_ ?_ ?_); (focus (exact hF)); (focus (go_simp)); (focus (go_simp))) | go_in | go_invoke)
  go_ret
  exact ⟨rfl, by go_grown⟩

set_option maxHeartbeats 1600000 in
theorem fe_en (F : Interp) (msg T : ByteArray) (off l c : Int) (b : Nat) (w : World) (hF : F.answers w.tape)
    (hb : b < w.heap.size) (h0 : w.cell? ⟨b, 0, none⟩ = some (.string msg)) (h1 : w.cell? ⟨b, 1, none⟩ = some (.string ⟨#[]⟩)) (h2 : w.cell? ⟨b, 2, none⟩ = some (.int .i64 off)) (h3 : w.cell? ⟨b, 3, none⟩ = some (.int .i64 l)) (h4 : w.cell? ⟨b, 4, none⟩ = some (.int .i64 c))
    (hl : (l != 0) = false) (hc : (c != 0) = false) (hs : msg.size ≤ 4194304) (hT0 : T.size ≤ 1000) (hT1 : T.toList.isEmpty = false) (hT : FmtStop.textOf (F "fmt.Sprintf" (posReading l c) 0) = T) :
    Calls Tryf.prog 35 #[.iface 25 (.pointer (some ⟨b, 0, none⟩))] w fun e w' => e = .returned (.string msg) ∧ Below w.heap.size w w' := by
  have b1 : b < w.heap.size + 1 := by omega
  have b2 : b < w.heap.size + 1 + 1 := by omega
  have b3 : b < w.heap.size + 1 + 1 + 1 := by omega
  have b4 : b < w.heap.size + 1 + 1 + 1 + 1 := by omega
  go_enter Tryf.func35, Tryf.ntmps35
  go_wp2
  go_ret
  exact ⟨rfl, by go_grown⟩

set_option maxHeartbeats 1600000 in
theorem fe_fl (F : Interp) (fn : ByteArray) (msg T : ByteArray) (off l c : Int) (b : Nat) (w : World) (hF : F.answers w.tape)
    (hb : b < w.heap.size) (h0 : w.cell? ⟨b, 0, none⟩ = some (.string msg)) (h1 : w.cell? ⟨b, 1, none⟩ = some (.string fn)) (h2 : w.cell? ⟨b, 2, none⟩ = some (.int .i64 off)) (h3 : w.cell? ⟨b, 3, none⟩ = some (.int .i64 l)) (h4 : w.cell? ⟨b, 4, none⟩ = some (.int .i64 c))
    (hl : (l != 0) = true) (hf : fn.toList.isEmpty = false) (hs : fn.size + msg.size ≤ 4194304) (hT0 : T.size ≤ 1000) (hT1 : T.toList.isEmpty = false) (hT : FmtStop.textOf (F "fmt.Sprintf" (posReading l c) 0) = T) :
    Calls Tryf.prog 35 #[.iface 25 (.pointer (some ⟨b, 0, none⟩))] w fun e w' => e = .returned (.string ((((⟨#[]⟩ : ByteArray) ++ (fn ++ ⟨#[58]⟩)) ++ T) ++ (⟨#[32]⟩ ++ msg))) ∧ Below w.heap.size w w' := by
  have b1 : b < w.heap.size + 1 := by omega
  have b2 : b < w.heap.size + 1 + 1 := by omega
  have b3 : b < w.heap.size + 1 + 1 + 1 := by omega
  have b4 : b < w.heap.size + 1 + 1 + 1 + 1 := by omega
  have hne : (((⟨#[]⟩ : ByteArray) ++ (fn ++ ⟨#[58]⟩)) ++ T).toList.isEmpty = false := ne_size _ (by have := size_ne hT1; simp [ByteArray.size_append]; omega)
  go_enter Tryf.func35, Tryf.ntmps35
  go_wp2_with (first | ((with_reducible refine sp3 F l c _ _ _ ?_ ?_ ?_ ?_); (focus (exact hF)); (focus (go_simp)); (focus (go_simp))) | go_in | go_invoke)
  go_ret
  exact ⟨rfl, by go_grown⟩

set_option maxHeartbeats 1600000 in
theorem fe_fc (F : Interp) (fn : ByteArray) (msg T : ByteArray) (off l c : Int) (b : Nat) (w : World) (hF : F.answers w.tape)
    (hb : b < w.heap.size) (h0 : w.cell? ⟨b, 0, none⟩ = some (.string msg)) (h1 : w.cell? ⟨b, 1, none⟩ = some (.string fn)) (h2 : w.cell? ⟨b, 2, none⟩ = some (.int .i64 off)) (h3 : w.cell? ⟨b, 3, none⟩ = some (.int .i64 l)) (h4 : w.cell? ⟨b, 4, none⟩ = some (.int .i64 c))
    (hl : (l != 0) = false) (hc : (c != 0) = true) (hf : fn.toList.isEmpty = false) (hs : fn.size + msg.size ≤ 4194304) (hT0 : T.size ≤ 1000) (hT1 : T.toList.isEmpty = false) (hT : FmtStop.textOf (F "fmt.Sprintf" (posReading l c) 0) = T) :
    Calls Tryf.prog 35 #[.iface 25 (.pointer (some ⟨b, 0, none⟩))] w fun e w' => e = .returned (.string ((((⟨#[]⟩ : ByteArray) ++ (fn ++ ⟨#[58]⟩)) ++ T) ++ (⟨#[32]⟩ ++ msg))) ∧ Below w.heap.size w w' := by
  have b1 : b < w.heap.size + 1 := by omega
  have b2 : b < w.heap.size + 1 + 1 := by omega
  have b3 : b < w.heap.size + 1 + 1 + 1 := by omega
  have b4 : b < w.heap.size + 1 + 1 + 1 + 1 := by omega
  have hne : (((⟨#[]⟩ : ByteArray) ++ (fn ++ ⟨#[58]⟩)) ++ T).toList.isEmpty = false := ne_size _ (by have := size_ne hT1; simp [ByteArray.size_append]; omega)
  go_enter Tryf.func35, Tryf.ntmps35
  go_wp2_with (first | ((with_reducible refine sp3 F l c _ _ _ ?_ ?_ ?_ ?_); (focus (exact hF)); (focus (go_simp)); (focus (go_simp))) | go_in | go_invoke)
  go_ret
  exact ⟨rfl, by go_grown⟩

set_option maxHeartbeats 1600000 in
theorem fe_fn (F : Interp) (fn : ByteArray) (msg T : ByteArray) (off l c : Int) (b : Nat) (w : World) (hF : F.answers w.tape)
    (hb : b < w.heap.size) (h0 : w.cell? ⟨b, 0, none⟩ = some (.string msg)) (h1 : w.cell? ⟨b, 1, none⟩ = some (.string fn)) (h2 : w.cell? ⟨b, 2, none⟩ = some (.int .i64 off)) (h3 : w.cell? ⟨b, 3, none⟩ = some (.int .i64 l)) (h4 : w.cell? ⟨b, 4, none⟩ = some (.int .i64 c))
    (hl : (l != 0) = false) (hc : (c != 0) = false) (hf : fn.toList.isEmpty = false) (hs : fn.size + msg.size ≤ 4194304) (hT0 : T.size ≤ 1000) (hT1 : T.toList.isEmpty = false) (hT : FmtStop.textOf (F "fmt.Sprintf" (posReading l c) 0) = T) :
    Calls Tryf.prog 35 #[.iface 25 (.pointer (some ⟨b, 0, none⟩))] w fun e w' => e = .returned (.string (((⟨#[]⟩ : ByteArray) ++ (fn ++ ⟨#[58]⟩)) ++ (⟨#[32]⟩ ++ msg))) ∧ Below w.heap.size w w' := by
  have b1 : b < w.heap.size + 1 := by omega
  have b2 : b < w.heap.size + 1 + 1 := by omega
  have b3 : b < w.heap.size + 1 + 1 + 1 := by omega
  have b4 : b < w.heap.size + 1 + 1 + 1 + 1 := by omega
  have hne : ((⟨#[]⟩ : ByteArray) ++ (fn ++ ⟨#[58]⟩)).toList.isEmpty = false := ne_size _ (by have := size_ne hf; simp [ByteArray.size_append]; omega)
  go_enter Tryf.func35, Tryf.ntmps35
  go_wp2
  go_ret
  exact ⟨rfl, by go_grown⟩

/-- WHAT FormatError RETURNS. -/
def feOf (fn msg T : ByteArray) (l c : Int) : ByteArray :=
  if fn.size = 0 then (if l = 0 ∧ c = 0 then msg else ((⟨#[]⟩ : ByteArray) ++ T) ++ (⟨#[32]⟩ ++ msg))
  else (if l = 0 ∧ c = 0 then ((⟨#[]⟩ : ByteArray) ++ (fn ++ ⟨#[58]⟩)) ++ (⟨#[32]⟩ ++ msg) else (((⟨#[]⟩ : ByteArray) ++ (fn ++ ⟨#[58]⟩)) ++ T) ++ (⟨#[32]⟩ ++ msg))

theorem fe_any (F : Interp) (fn msg T : ByteArray) (off l c : Int) (b : Nat) (w : World) (hF : F.answers w.tape)
    (hb : b < w.heap.size) (h0 : w.cell? ⟨b, 0, none⟩ = some (.string msg)) (h1 : w.cell? ⟨b, 1, none⟩ = some (.string fn)) (h2 : w.cell? ⟨b, 2, none⟩ = some (.int .i64 off)) (h3 : w.cell? ⟨b, 3, none⟩ = some (.int .i64 l)) (h4 : w.cell? ⟨b, 4, none⟩ = some (.int .i64 c))
    (hs : fn.size + msg.size ≤ 4194304) (hT0 : T.size ≤ 1000) (hT1 : T.toList.isEmpty = false) (hT : FmtStop.textOf (F "fmt.Sprintf" (posReading l c) 0) = T) :
    Calls Tryf.prog 35 #[.iface 25 (.pointer (some ⟨b, 0, none⟩))] w fun e w' => e = .returned (.string (feOf fn msg T l c)) ∧ Below w.heap.size w w' := by
  by_cases hf : fn.size = 0
  · obtain rfl := size_zero hf
    by_cases hl : l = 0
    · by_cases hc : c = 0
      · rw [feOf, if_pos hf, if_pos ⟨hl, hc⟩]
        exact fe_en F msg T off l c b w hF hb h0 h1 h2 h3 h4 (by simp [hl]) (by simp [hc]) (by omega) hT0 hT1 hT
      · rw [feOf, if_pos hf, if_neg (fun h => hc h.2)]
        exact fe_ec F msg T off l c b w hF hb h0 h1 h2 h3 h4 (by simp [hl]) (by simp [hc]) (by omega) hT0 hT1 hT
    · rw [feOf, if_pos hf, if_neg (fun h => hl h.1)]
      exact fe_el F msg T off l c b w hF hb h0 h1 h2 h3 h4 (by simp [hl]) (by omega) hT0 hT1 hT
  · have hf' : fn.toList.isEmpty = false := ne_size _ (by omega)
    by_cases hl : l = 0
    · by_cases hc : c = 0
      · rw [feOf, if_neg hf, if_pos ⟨hl, hc⟩]
        exact fe_fn F fn msg T off l c b w hF hb h0 h1 h2 h3 h4 (by simp [hl]) (by simp [hc]) hf' hs hT0 hT1 hT
      · rw [feOf, if_neg hf, if_neg (fun h => hc h.2)]
        exact fe_fc F fn msg T off l c b w hF hb h0 h1 h2 h3 h4 (by simp [hl]) (by simp [hc]) hf' hs hT0 hT1 hT
    · rw [feOf, if_neg hf, if_neg (fun h => hl h.1)]
      exact fe_fl F fn msg T off l c b w hF hb h0 h1 h2 h3 h4 (by simp [hl]) hf' hs hT0 hT1 hT

/-- WHAT fmt.Sprintf IS TOLD TO GIVE for the position. -/
def posText (l c : Int) : List UInt8 := Lib.itoa l ++ ([58] ++ (Lib.itoa c ++ [58]))

theorem pos_text (l c : Int) (hl : (Lit.int .i64 l).wf = true) (hc : (Lit.int .i64 c).wf = true) : FmtText.text "fmt.Sprintf" (posReading l c) = some (posText l c) := by
  have h1 := FmtText.operand_int_at (sh := Tryf.shape3) (k := .i64) rfl rfl l hl
  have h2 := FmtText.operand_int_at (sh := Tryf.shape3) (k := .i64) rfl rfl c hc
  rw [posReading, FmtText.text_sprintf_glued Tryf.fmt0t (FmtText.operands_cons h1 (FmtText.operands_cons h2 FmtText.operands_nil))]
  simp [FmtText.render, FmtText.printArg_d _ _ hl, FmtText.printArg_d _ _ hc, posText]

theorem posText_len (l c : Int) (hl : (Lit.int .i64 l).wf = true) (hc : (Lit.int .i64 c).wf = true) : (posText l c).length ≤ 44 := by
  have h1 := FmtText.itoa_length_le hl
  have h2 := FmtText.itoa_length_le hc
  simp [posText]; omega

theorem told_pos (F : Interp) (l c : Int) (hl : (Lit.int .i64 l).wf = true) (hc : (Lit.int .i64 c).wf = true) :
    (FmtStop.textOf (F.told "fmt.Sprintf" (posReading l c) 0)).data.toList = posText l c := by
  have h3 := posText_len l c hl hc
  rw [Go.Kit.textOf_list]
  exact told_string F (pos_text l c hl hc) (by omega)

theorem told_pos_size (F : Interp) (l c : Int) (hl : (Lit.int .i64 l).wf = true) (hc : (Lit.int .i64 c).wf = true) :
    (FmtStop.textOf (F.told "fmt.Sprintf" (posReading l c) 0)).size ≤ 1000 ∧ (FmtStop.textOf (F.told "fmt.Sprintf" (posReading l c) 0)).toList.isEmpty = false := by
  have h3 := posText_len l c hl hc
  have h4 := told_pos F l c hl hc
  have h5 : (FmtStop.textOf (F.told "fmt.Sprintf" (posReading l c) 0)).size = (posText l c).length := by rw [← h4, Array.length_toList]; rfl
  have h6 : 0 < (posText l c).length := by simp [posText]; omega
  exact ⟨by omega, ne_size _ (by omega)⟩


end Go.Proofs.YtcjohdbojepmfaaFmt
