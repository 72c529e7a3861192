/- decorate over a ParseError, twice and once, and the law's own walk: the message is told, the position stays. For every F that stands for fmt; then fmt told. -/
import Derived.Test.YtmcnbmhggklfbaaFmtCards
import Derived.Test.YtmcnbmhggklfbaaFmtFmt
import Derived.WalkKit
import Derived.WalkSpells
import Derived.Handy
import Derived.BigQuiet
import Derived.Deep.QuietTactic
import Derived.Deep.RegionWith
import Derived.Stop.Texts
import Derived.Stop.Told
import Derived.Stop.FmtTextKit
import Derived.Lib.Builder
namespace Go.Proofs.YtmcnbmhggklfbaaFmt
open Go.RowKit Go.Extern.Stop Go.Stop Go.Extern
set_option linter.unusedVariables false

def ssReading (m n : List UInt8) : List (List UInt8) := [[37, 115, 58, 32, 37, 115], Tryf.shape9, FmtStop.pack m, Tryf.shape9, FmtStop.pack n]

theorem sp2 (F : Interp) (m n : ByteArray) (b : Nat) (w : World) (R : Value → World → Prop) (hF : F.answers w.tape)
    (h0 : w.cell? ⟨b, 0, none⟩ = some (.iface 9 (.string m))) (h1 : w.cell? ⟨b, 1, none⟩ = some (.iface 9 (.string n))) (h : R (.string (FmtStop.textOf (F "fmt.Sprintf" (ssReading m.data.toList n.data.toList) 0))) w.drew) :
    Rows Tryf.prog FmtCalls.turnsRow (FmtCalls.save 0 0 (.slice (some ⟨b, 0, none⟩) 2 2) ⟨#[37, 115, 58, 32, 37, 115]⟩ [] [(0, 115, false), (1, 115, false)]) w R := by
  have hF' := answers_open hF
  refine rows_value Tryf.nextTurns ?_ h
  go_simp
  exact rfl

@[go_sem] theorem assert1 (x : Value) (w : World) : (Instr.typeAssert (.iface 25 x) 30 36 true).run Tryf.prog w = .ok (.tuple #[.iface 25 x, .bool true]) w := by kernel_rfl
@[go_sem] theorem assert2 (x : Value) (w : World) : (Instr.typeAssert (.iface 25 x) 30 25 false).run Tryf.prog w = .ok x w := by kernel_rfl
@[go_sem] theorem notNil (x : Value) (w : World) : (binOp .eql 30 (.iface 25 x) .nilIface).run Tryf.prog w = .ok (.bool false) w := by kernel_rfl

set_option maxHeartbeats 800000 in
theorem errorf_ss (F : Interp) (fn m n X : ByteArray) (off l c : Int) (b : Nat) (w : World) (hF : F.answers w.tape) (hb : b < w.heap.size)
    (h0 : w.cell? ⟨b, 0, none⟩ = some (.iface 9 (.string m))) (h1 : w.cell? ⟨b, 1, none⟩ = some (.iface 9 (.string n))) (hX : FmtStop.textOf (F "fmt.Sprintf" (ssReading m.data.toList n.data.toList) 0) = X) :
    Calls Tryf.prog 8 #[.agg #[.string fn, .int .i64 off, .int .i64 l, .int .i64 c], .string ⟨#[37, 115, 58, 32, 37, 115]⟩, .slice (some ⟨b, 0, none⟩) 2 2] w fun e w' =>
      e = .returned (.iface 25 (.pointer (some ⟨w.heap.size + 1, 0, none⟩))) ∧
      w' = ((w.alloc (.cells #[.string fn, .int .i64 off, .int .i64 l, .int .i64 c] 24)).alloc (.cells #[.string X, .string fn, .int .i64 off, .int .i64 l, .int .i64 c] 28)).drew.drew := by
  subst hX
  have b1 : b < w.heap.size + 1 := by omega
  have b2 : b < w.heap.size + 1 + 1 := by omega
  go_enter Tryf.func8, Tryf.ntmps8
  go_wp2
  go_region_with ((with_reducible refine sp2 F m n b _ _ ?_ ?_ ?_ ?_); (focus (exact hF)); (focus (go_simp)); (focus (go_simp)))
  all_goals
    go_wp2
    go_ret
    exact ⟨rfl, rfl⟩

set_option maxHeartbeats 1600000 in
theorem dec5 (F : Interp) (msg fn name X : ByteArray) (off l c : Int) (w : World) (hF : F.answers w.tape) (hX : FmtStop.textOf (F "fmt.Sprintf" (ssReading name.data.toList msg.data.toList) 0) = X) :
    Calls Tryf.prog 5 #[.string msg, .agg #[.string fn, .int .i64 off, .int .i64 l, .int .i64 c], .string name] w fun e w' =>
      ∃ B : Nat, e = .returned (.pointer (some ⟨B, 0, none⟩)) ∧ w.heap.size ≤ B ∧ B < w'.heap.size ∧ Below w.heap.size w w' ∧ w'.cell? ⟨B, 0, none⟩ = some (.string X) ∧
        w'.cell? ⟨B, 1, none⟩ = some (.string fn) ∧ w'.cell? ⟨B, 2, none⟩ = some (.int .i64 off) ∧ w'.cell? ⟨B, 3, none⟩ = some (.int .i64 l) ∧ w'.cell? ⟨B, 4, none⟩ = some (.int .i64 c) := by
  have HX := Lib.hid hX
  clear hX
  go_enter Tryf.func5, Tryf.ntmps5
  go_wp2_with (first | (go_at_call 8; refine (errorf_ss F fn name msg X off l c _ _ (by exact hF) (by simp) (by go_simp) (by go_simp) HX.out).mono ?_; rintro e w1 ⟨rfl, rfl⟩) | go_in | go_invoke)
  refine bodyPost_ret (v := .pointer (some ⟨w.heap.size + 1 + 1 + 1 + 1 + 1 + 1, 0, none⟩)) (by simp [results, Tryf.results5, go_sem]) rfl ⟨w.heap.size + 1 + 1 + 1 + 1 + 1 + 1, rfl, by omega, by simp, by go_grown, ?_, ?_, ?_, ?_, ?_⟩
  · go_simp
  · go_simp
  · go_simp
  · go_simp
  · go_simp

theorem kept_cells {W w1 : World} (hb : Below W.heap.size W w1) : (∀ b o, b < W.heap.size → w1.cell? ⟨b, o, none⟩ = W.cell? ⟨b, o, none⟩) ∧ (∀ b o, b < W.heap.size → w1.frozen? ⟨b, o, none⟩ = W.frozen? ⟨b, o, none⟩) :=
  ⟨fun b o h => hb.cell (p := ⟨b, o, none⟩) h, fun b o h => hb.frozen (p := ⟨b, o, none⟩) h⟩

theorem Below.drewMany {B : Nat} {a w : World} (h : Below B a w) (n : Nat) : Below B a (w.drewN n) := ⟨h.os, h.tape, h.output, h.size, h.block⟩

set_option maxHeartbeats 1600000 in
theorem law_ok (F : Interp) (a0 a1 a5 a6 X1 X2 : ByteArray) (a2 a3 a4 : Int) (w : World) (hF : F.answers w.tape) (hs : a0.size + a1.size + a5.size + a6.size ≤ 1048576)
    (h0 : a0.size ≤ 262144) (h1 : a1.size ≤ 262144) (h5 : a5.size ≤ 262144) (h6 : a6.size ≤ 262144)
    (hX1 : FmtStop.textOf (F "fmt.Sprintf" (ssReading a5.data.toList a0.data.toList) 0) = X1)
    (hX2 : FmtStop.textOf (F "fmt.Sprintf" (ssReading a6.data.toList X1.data.toList) 0) = X2)
    (hX3 : FmtStop.textOf (F "fmt.Sprintf" (ssReading (a6 ++ ⟨#[58, 32]⟩ ++ a5).data.toList a0.data.toList) 0) = X2) :
    Calls Tryf.prog 3 #[.string a0, .string a1, .int .i64 a2, .int .i64 a3, .int .i64 a4, .string a5, .string a6] w fun e w' => e = .returned (.bool true) ∧ Below w.heap.size w w' := by
  have HX1 := Lib.hid hX1
  have HX2 := Lib.hid hX2
  have HX3 := Lib.hid hX3
  clear hX1 hX2 hX3
  go_enter Tryf.func3, Tryf.ntmps3
  go_wp2_with (first | (go_at_call 4; go_in))
  refine (dec5 F a0 a1 a5 X1 a2 a3 a4 _ (by exact hF) HX1.out).mono ?_
  rintro e w1 ⟨B1, rfl, j1, k1, hb1, c0, c1, c2, c3, c4⟩
  have HB1 := Lib.hid hb1
  obtain ⟨hc, hf⟩ := kept_cells hb1
  have p0 : w1.cell? ⟨w.heap.size, 0, none⟩ = some (.string a1) := (hc _ _ (by simp)).trans (by go_simp)
  have p1 : w1.cell? ⟨w.heap.size, 1, none⟩ = some (.int .i64 a2) := (hc _ _ (by simp)).trans (by go_simp)
  have p2 : w1.cell? ⟨w.heap.size, 2, none⟩ = some (.int .i64 a3) := (hc _ _ (by simp)).trans (by go_simp)
  have p3 : w1.cell? ⟨w.heap.size, 3, none⟩ = some (.int .i64 a4) := (hc _ _ (by simp)).trans (by go_simp)
  have hF1 : F.answers w1.tape := by rw [hb1.tape]; exact hF
  have hw1 : w.heap.size < w1.heap.size := by simp at j1; omega
  have B01 := Lib.hid ((show Below w.heap.size w _ by go_grown).trans (hb1.mono (by simp)))
  clear hc hf hb1 HB1
  go_wp2
  go_region_with ((go_at_call 5; refine (dec5 F X1 a1 a6 X2 a2 a3 a4 _ (by exact hF1) HX2.out).mono ?_; rintro e w2 ⟨B2, rfl, j2, k2, hb2, d0, d1, d2, d3, d4⟩))
  all_goals
    obtain ⟨hc2, hf2⟩ := kept_cells hb2
    have q0 : w2.cell? ⟨w.heap.size, 0, none⟩ = some (.string a1) := (hc2 _ _ hw1).trans p0
    have q1 : w2.cell? ⟨w.heap.size, 1, none⟩ = some (.int .i64 a2) := (hc2 _ _ hw1).trans p1
    have q2 : w2.cell? ⟨w.heap.size, 2, none⟩ = some (.int .i64 a3) := (hc2 _ _ hw1).trans p2
    have q3 : w2.cell? ⟨w.heap.size, 3, none⟩ = some (.int .i64 a4) := (hc2 _ _ hw1).trans p3
    have hF2 : F.answers w2.tape := by rw [hb2.tape]; exact hF1
    have hz2 := hb2.size
    have hw2 : w.heap.size < w2.heap.size := Nat.lt_of_lt_of_le hw1 hz2
    have B02 := Lib.hid (B01.out.trans ((show Below w.heap.size w1 _ from (Below.refl _ _).drew).trans (hb2.mono (Nat.le_of_lt hw1))))
    clear hc2 hf2 hb2 hz2 p0 p1 p2 p3 c0 c1 c2 c3 c4 j2
    go_wp2_with fail
    refine (dec5 F a0 a1 _ X2 a2 a3 a4 _ (by exact hF2) HX3.out).mono ?_
    rintro e w3 ⟨B3, rfl, j3, k3, hb3, e0, e1, e2, e3, e4⟩
    obtain ⟨hc3, hf3⟩ := kept_cells hb3
    have r0 : w3.cell? ⟨w.heap.size, 0, none⟩ = some (.string a1) := (hc3 _ _ hw2).trans q0
    have r1 : w3.cell? ⟨w.heap.size, 1, none⟩ = some (.int .i64 a2) := (hc3 _ _ hw2).trans q1
    have r2 : w3.cell? ⟨w.heap.size, 2, none⟩ = some (.int .i64 a3) := (hc3 _ _ hw2).trans q2
    have r3 : w3.cell? ⟨w.heap.size, 3, none⟩ = some (.int .i64 a4) := (hc3 _ _ hw2).trans q3
    have s0 : w3.cell? ⟨B2, 0, none⟩ = some (.string X2) := (hc3 _ _ k2).trans d0
    have s1 : w3.cell? ⟨B2, 1, none⟩ = some (.string a1) := (hc3 _ _ k2).trans d1
    have s2 : w3.cell? ⟨B2, 2, none⟩ = some (.int .i64 a2) := (hc3 _ _ k2).trans d2
    have s3 : w3.cell? ⟨B2, 3, none⟩ = some (.int .i64 a3) := (hc3 _ _ k2).trans d3
    have s4 : w3.cell? ⟨B2, 4, none⟩ = some (.int .i64 a4) := (hc3 _ _ k2).trans d4
    have B03 := Lib.hid (B02.out.trans (hb3.mono (Nat.le_of_lt hw2)))
    clear hc3 hf3 hb3 q0 q1 q2 q3 d0 d1 d2 d3 d4 j3 j1
    go_wp2
    go_quiet (fail)
    go_wp2
    go_ret
    exact ⟨rfl, Below.drewMany B03.out _⟩

set_option maxHeartbeats 1600000 in
theorem law_no (a0 a1 a5 a6 : ByteArray) (a2 a3 a4 : Int) (w : World) (h0 : a0.size ≤ 9223372036854775807) (h1 : a1.size ≤ 9223372036854775807) (h5 : a5.size ≤ 9223372036854775807) (h6 : a6.size ≤ 9223372036854775807) (hs : ¬ a0.size + a1.size + a5.size + a6.size ≤ 1048576) :
    Calls Tryf.prog 3 #[.string a0, .string a1, .int .i64 a2, .int .i64 a3, .int .i64 a4, .string a5, .string a6] w fun e w' => e = .returned (.bool true) ∧ Below w.heap.size w w' := by
  by_cases g0 : a0.size ≤ 1048576
  · by_cases g1 : a1.size ≤ 1048576
    · by_cases g01 : a0.size + a1.size ≤ 1048576
      · by_cases g5 : a5.size ≤ 1048576
        · by_cases g015 : a0.size + a1.size + a5.size ≤ 1048576
          · by_cases g6 : a6.size ≤ 1048576
            · go_enter Tryf.func3, Tryf.ntmps3
              go_wp2
              go_ret
              exact ⟨rfl, Below.refl _ _⟩
            · go_enter Tryf.func3, Tryf.ntmps3
              go_wp2
              go_ret
              exact ⟨rfl, Below.refl _ _⟩
          · go_enter Tryf.func3, Tryf.ntmps3
            go_wp2
            go_ret
            exact ⟨rfl, Below.refl _ _⟩
        · go_enter Tryf.func3, Tryf.ntmps3
          go_wp2
          go_ret
          exact ⟨rfl, Below.refl _ _⟩
      · go_enter Tryf.func3, Tryf.ntmps3
        go_wp2
        go_ret
        exact ⟨rfl, Below.refl _ _⟩
    · go_enter Tryf.func3, Tryf.ntmps3
      go_wp2
      go_ret
      exact ⟨rfl, Below.refl _ _⟩
  · go_enter Tryf.func3, Tryf.ntmps3
    go_wp2
    go_ret
    exact ⟨rfl, Below.refl _ _⟩

set_option maxHeartbeats 1600000 in
theorem law_big (a0 a1 a5 a6 : ByteArray) (a2 a3 a4 : Int) (w : World) (hs : a0.size + a1.size + a5.size + a6.size ≤ 1048576) (hb : ¬ (a0.size ≤ 262144 ∧ a1.size ≤ 262144 ∧ a5.size ≤ 262144 ∧ a6.size ≤ 262144)) :
    Calls Tryf.prog 3 #[.string a0, .string a1, .int .i64 a2, .int .i64 a3, .int .i64 a4, .string a5, .string a6] w fun e w' => e = .returned (.bool true) ∧ Below w.heap.size w w' := by
  by_cases g0 : a0.size ≤ 262144
  · by_cases g1 : a1.size ≤ 262144
    · by_cases g5 : a5.size ≤ 262144
      · have g6 : ¬ a6.size ≤ 262144 := fun h => hb ⟨g0, g1, g5, h⟩
        clear hb
        go_enter Tryf.func3, Tryf.ntmps3
        go_wp2
        go_ret
        exact ⟨rfl, Below.refl _ _⟩
      · clear hb
        go_enter Tryf.func3, Tryf.ntmps3
        go_wp2
        go_ret
        exact ⟨rfl, Below.refl _ _⟩
    · clear hb
      go_enter Tryf.func3, Tryf.ntmps3
      go_wp2
      go_ret
      exact ⟨rfl, Below.refl _ _⟩
  · clear hb
    go_enter Tryf.func3, Tryf.ntmps3
    go_wp2
    go_ret
    exact ⟨rfl, Below.refl _ _⟩

/-- WHAT fmt.Sprintf IS TOLD TO GIVE for two strings under the format: the first, a colon and a blank, the second. -/
theorem ss_text (m n : List UInt8) (hm : m.length < 2 ^ 64) (hn : n.length < 2 ^ 64) : FmtText.text "fmt.Sprintf" (ssReading m n) = some (m ++ (58 :: 32 :: n)) := by
  have h1 := FmtText.operand_str_at (sh := Tryf.shape9) rfl rfl m hm
  have h2 := FmtText.operand_str_at (sh := Tryf.shape9) rfl rfl n hn
  rw [ssReading, FmtText.text_sprintf_glued Tryf.fmt0t (FmtText.operands_cons h1 (FmtText.operands_cons h2 FmtText.operands_nil))]
  simp [FmtText.render, FmtText.printArg_s_str]

theorem bytes_ext {a b : ByteArray} (h : a.data.toList = b.data.toList) : a = b := by
  cases a with
  | mk x => cases b with
    | mk y => cases x with
      | mk l => cases y with
        | mk r => simp at h; rw [h]

theorem bytes_size (s : ByteArray) : s.data.toList.length = s.size := by rw [Array.length_toList]; rfl

theorem told_ss (F : Interp) (m n : ByteArray) (hm : m.size ≤ 4194304) (hn : n.size ≤ 4194304) :
    FmtStop.textOf (F.told "fmt.Sprintf" (ssReading m.data.toList n.data.toList) 0) = m ++ ⟨#[58, 32]⟩ ++ n := by
  have hl := bytes_size m
  have hk := bytes_size n
  refine bytes_ext ?_
  rw [Go.Kit.textOf_list, told_string F (ss_text m.data.toList n.data.toList (by omega) (by omega)) (by simp; omega)]
  simp

theorem key_FnDecorateTwiceIsOneJoinedName (F : Interp) (a0 a1 : ByteArray) (a2 a3 a4 : Int) (a5 a6 : ByteArray) (w0 : a0.size ≤ maxLen) (w1 : a1.size ≤ maxLen) (w2 : (Lit.int .i64 a2).wf = true) (w3 : (Lit.int .i64 a3).wf = true) (w4 : (Lit.int .i64 a4).wf = true) (w5 : a5.size ≤ maxLen) (w6 : a6.size ≤ maxLen) (w : World) (hF : F.told.answers w.tape) :
    Calls Tryf.prog 3 #[.string a0, .string a1, .int .i64 a2, .int .i64 a3, .int .i64 a4, .string a5, .string a6] w fun e w' => e = .returned (.bool true) ∧ Below w.heap.size w w' := by
  unfold maxLen at w0 w1 w5 w6
  by_cases hs : a0.size + a1.size + a5.size + a6.size ≤ 1048576
  · by_cases hb : a0.size ≤ 262144 ∧ a1.size ≤ 262144 ∧ a5.size ≤ 262144 ∧ a6.size ≤ 262144
    · obtain ⟨g0, g1, g5, g6⟩ := hb
      have z1 : (a5 ++ ⟨#[58, 32]⟩ ++ a0 : ByteArray).size ≤ 4194304 := by
        have : (⟨#[58, 32]⟩ : ByteArray).size = 2 := rfl
        rw [ByteArray.size_append, ByteArray.size_append]; omega
      have z2 : (a6 ++ ⟨#[58, 32]⟩ ++ a5 : ByteArray).size ≤ 4194304 := by
        have : (⟨#[58, 32]⟩ : ByteArray).size = 2 := rfl
        rw [ByteArray.size_append, ByteArray.size_append]; omega
      refine law_ok F.told a0 a1 a5 a6 (a5 ++ ⟨#[58, 32]⟩ ++ a0) (a6 ++ ⟨#[58, 32]⟩ ++ (a5 ++ ⟨#[58, 32]⟩ ++ a0)) a2 a3 a4 w hF hs g0 g1 g5 g6 (told_ss F a5 a0 (by omega) (by omega)) (told_ss F a6 _ (by omega) z1) ?_
      rw [told_ss F (a6 ++ ⟨#[58, 32]⟩ ++ a5) a0 z2 (by omega)]
      exact bytes_ext (by simp)
    · exact law_big a0 a1 a5 a6 a2 a3 a4 w hs hb
  · exact law_no a0 a1 a5 a6 a2 a3 a4 w w0 w1 w5 w6 hs
end Go.Proofs.YtmcnbmhggklfbaaFmt
