/- Wrapf around a ParseError, Unwrap of what it gives, and the law's own walk: the very pointer comes back and what it points to is as it was built. For every F that stands for fmt. -/
import Derived.Test.YtcjohdbojepmfaaFmtParts
import Derived.Lib.Builder
namespace Go.Proofs.YtcjohdbojepmfaaFmt
open Go.RowKit Go.Extern.Stop Go.Stop Go.Extern
set_option linter.unusedVariables false

@[go_sem] theorem assert1 (x : Value) (w : World) : (Instr.typeAssert (.iface 25 x) 39 35 true).run Tryf.prog w = .ok (.tuple #[.iface 25 x, .bool true]) w := by kernel_rfl
@[go_sem] theorem assert2 (x : Value) (w : World) : (Instr.typeAssert (.iface 40 x) 35 40 false).run Tryf.prog w = .ok x w := by kernel_rfl
@[go_sem] theorem assert3 (x : Value) (w : World) : (Instr.typeAssert (.iface 25 x) 39 25 true).run Tryf.prog w = .ok (.tuple #[x, .bool true]) w := by kernel_rfl

theorem info29 : (Tryf.prog.info? 29).isSome = true := by kernel_rfl
@[go_sem] theorem ptrNeq (a : Addr) (w : World) : (binOp .neq 25 (.pointer (some a)) (.pointer (some a))).run Tryf.prog w = .ok (.bool false) w := by
  obtain ⟨j, hj⟩ := Option.isSome_iff_exists.1 info29
  exact Lib.run_neq_ptr_same w a Tryf.underlying25 hj

set_option maxHeartbeats 1600000 in
theorem wrapf (F : Interp) (pf fn im m : ByteArray) (po pl pc off l c : Int) (b d : Nat) (w : World) (hF : F.answers w.tape) (hb : b < w.heap.size) (hd : d < w.heap.size)
    (h0 : w.cell? ⟨b, 0, none⟩ = some (.string im)) (h1 : w.cell? ⟨b, 1, none⟩ = some (.string fn)) (h2 : w.cell? ⟨b, 2, none⟩ = some (.int .i64 off)) (h3 : w.cell? ⟨b, 3, none⟩ = some (.int .i64 l)) (h4 : w.cell? ⟨b, 4, none⟩ = some (.int .i64 c))
    (hm : w.cell? ⟨d, 0, none⟩ = some (.iface 9 (.string m))) :
    Calls Tryf.prog 11 #[.agg #[.string pf, .int .i64 po, .int .i64 pl, .int .i64 pc], .iface 25 (.pointer (some ⟨b, 0, none⟩)), .string ⟨#[37, 115]⟩, .slice (some ⟨d, 0, none⟩) 1 1] w fun e w' => 
      e = .returned (.iface 40 (.pointer (some ⟨w.heap.size + 1 + 1 + 1, 0, none⟩))) ∧
      w' = ((((w.alloc (.cells #[.string fn, .int .i64 off, .int .i64 l, .int .i64 c] 24)).alloc (.cells #[.string fn, .int .i64 off, .int .i64 l, .int .i64 c] 24)).alloc
        (.cells #[.iface 9 (.string (FmtStop.textOf (F "fmt.Sprintf" (sReading m.data.toList) 0))), .iface 9 (.string im)] 20)).alloc
        (.cells #[.iface 25 (.pointer (some ⟨b, 0, none⟩)), .string (FmtStop.textOf (F "fmt.Sprintf" (ssReading (FmtStop.textOf (F "fmt.Sprintf" (sReading m.data.toList) 0)).data.toList im.data.toList) 0)), .string fn, .int .i64 off, .int .i64 l, .int .i64 c] 49)).drew.drew := by
  have b1 : b < w.heap.size + 1 := by omega
  have b2 : b < w.heap.size + 1 + 1 := by omega
  have b3 : b < w.heap.size + 1 + 1 + 1 := by omega
  have d1 : d < w.heap.size + 1 := by omega
  have d2 : d < w.heap.size + 1 + 1 := by omega
  have d3 : d < w.heap.size + 1 + 1 + 1 := by omega
  go_enter Tryf.func11, Tryf.ntmps11
  go_wp2_with (first | ((with_reducible refine sp1 F m d _ _ ?_ ?_ ?_); (focus (exact hF)); (focus (go_simp))) | ((with_reducible refine sp2 F (FmtStop.textOf (F "fmt.Sprintf" (sReading m.data.toList) 0)) im _ _ _ ?_ ?_ ?_ ?_); (focus (exact hF)); (focus (go_simp)); (focus (go_simp))) | go_in | go_invoke)
  go_ret
  exact ⟨rfl, rfl⟩

set_option maxHeartbeats 1600000 in
theorem wrap6 (F : Interp) (pf fn im m : ByteArray) (po pl pc off l c : Int) (w : World) (hF : F.answers w.tape) :
    Calls Tryf.prog 6 #[.agg #[.string pf, .int .i64 po, .int .i64 pl, .int .i64 pc], .agg #[.string fn, .int .i64 off, .int .i64 l, .int .i64 c], .string im, .string m] w fun e w' => 
      ∃ S : ByteArray, e = .returned (.tuple #[.agg #[.string fn, .int .i64 off, .int .i64 l, .int .i64 c], .string S, .pointer (some ⟨w.heap.size + 1 + 1 + 1, 0, none⟩), .pointer (some ⟨w.heap.size + 1 + 1 + 1, 0, none⟩)]) ∧ Below w.heap.size w w' ∧
        w'.cell? ⟨w.heap.size + 1 + 1 + 1, 0, none⟩ = some (.string im) ∧ w'.cell? ⟨w.heap.size + 1 + 1 + 1, 1, none⟩ = some (.string fn) ∧ w'.cell? ⟨w.heap.size + 1 + 1 + 1, 2, none⟩ = some (.int .i64 off) ∧
        w'.cell? ⟨w.heap.size + 1 + 1 + 1, 3, none⟩ = some (.int .i64 l) ∧ w'.cell? ⟨w.heap.size + 1 + 1 + 1, 4, none⟩ = some (.int .i64 c) ∧ w.heap.size + 1 + 1 + 1 < w'.heap.size := by
  go_enter Tryf.func6, Tryf.ntmps6
  go_wp2_with fail
  refine (wrapf F pf fn im m po pl pc off l c _ _ _ (by exact hF) (by simp) (by simp) (by go_simp) (by go_simp) (by go_simp) (by go_simp) (by go_simp) (by go_simp)).mono ?_
  rintro e w1 ⟨rfl, rfl⟩
  go_wp2_with (first | go_in | go_invoke)
  refine bodyPost_ret (v := .tuple #[.agg #[.string fn, .int .i64 off, .int .i64 l, .int .i64 c], .string (FmtStop.textOf (F "fmt.Sprintf" (ssReading (FmtStop.textOf (F "fmt.Sprintf" (sReading m.data.toList) 0)).data.toList im.data.toList) 0)), .pointer (some ⟨w.heap.size + 1 + 1 + 1, 0, none⟩), .pointer (some ⟨w.heap.size + 1 + 1 + 1, 0, none⟩)]) (by simp [results, Tryf.results6, go_sem]) rfl ⟨_, rfl, by go_grown, ?_, ?_, ?_, ?_, ?_, ?_⟩
  · go_simp
  · go_simp
  · go_simp
  · go_simp
  · go_simp
  · simp

set_option maxHeartbeats 1600000 in
theorem unwrap_ok (F : Interp) (a0 a4 a8 a9 : ByteArray) (a1 a2 a3 a5 a6 a7 : Int) (w : World) (hF : F.answers w.tape) (hs : a0.size + a4.size + a8.size + a9.size ≤ 1048576) :
    Calls Tryf.prog 3 #[.string a0, .int .i64 a1, .int .i64 a2, .int .i64 a3, .string a4, .int .i64 a5, .int .i64 a6, .int .i64 a7, .string a8, .string a9] w fun e w' => e = .returned (.bool true) ∧ Below w.heap.size w w' := by
  go_enter Tryf.func3, Tryf.ntmps3
  go_wp2_with (first | (go_at_call 5; go_in))
  refine (wrap6 F a0 a4 a8 a9 a1 a2 a3 a5 a6 a7 _ (by exact hF)).mono ?_
  rintro e w1 ⟨S, rfl, hb, c0, c1, c2, c3, c4, hz5⟩
  simp at c0 c1 c2 c3 c4 hz5
  have hz1 : w.heap.size + 1 < w1.heap.size := by omega
  obtain ⟨hc, hf⟩ := kept_cells hb
  have hz := hb.size
  simp at hz
  have HB := Lib.hid ((show Below w.heap.size w _ by go_grown).trans (hb.mono (by simp; omega)))
  have i0 : w1.cell? ⟨w.heap.size + 1, 0, none⟩ = some (.string a4) := (hc _ _ (by simp)).trans (by go_simp)
  have i1 : w1.cell? ⟨w.heap.size + 1, 1, none⟩ = some (.int .i64 a5) := (hc _ _ (by simp)).trans (by go_simp)
  have i2 : w1.cell? ⟨w.heap.size + 1, 2, none⟩ = some (.int .i64 a6) := (hc _ _ (by simp)).trans (by go_simp)
  have i3 : w1.cell? ⟨w.heap.size + 1, 3, none⟩ = some (.int .i64 a7) := (hc _ _ (by simp)).trans (by go_simp)
  clear hb hc hf
  go_wp2
  go_quiet (fail)
  go_wp2
  go_ret
  exact ⟨rfl, Below.drewMany (HB.out.trans (show Below w.heap.size _ _ by go_grown)) _⟩

set_option maxHeartbeats 1600000 in
theorem unwrap_no (a0 a4 a8 a9 : ByteArray) (a1 a2 a3 a5 a6 a7 : Int) (w : World) (h0 : a0.size ≤ 9223372036854775807) (h4 : a4.size ≤ 9223372036854775807) (h8 : a8.size ≤ 9223372036854775807) (h9 : a9.size ≤ 9223372036854775807) (hs : ¬ a0.size + a4.size + a8.size + a9.size ≤ 1048576) :
    Calls Tryf.prog 3 #[.string a0, .int .i64 a1, .int .i64 a2, .int .i64 a3, .string a4, .int .i64 a5, .int .i64 a6, .int .i64 a7, .string a8, .string a9] w fun e w' => e = .returned (.bool true) ∧ Below w.heap.size w w' := by
  by_cases g0 : a0.size ≤ 1048576
  · by_cases g4 : a4.size ≤ 1048576
    · by_cases g04 : a0.size + a4.size ≤ 1048576
      · by_cases g8 : a8.size ≤ 1048576
        · by_cases g048 : a0.size + a4.size + a8.size ≤ 1048576
          · by_cases g9 : a9.size ≤ 1048576
            · go_enter Tryf.func3, Tryf.ntmps3
              go_wp2
              go_ret
              exact ⟨rfl, Below.refl _ _⟩
            · go_enter Tryf.func3, Tryf.ntmps3
              go_wp2
              go_ret
              exact ⟨rfl, Below.refl _ _⟩
          · go_enter Tryf.func3, Tryf.ntmps3
            go_wp2
            go_ret
            exact ⟨rfl, Below.refl _ _⟩
        · go_enter Tryf.func3, Tryf.ntmps3
          go_wp2
          go_ret
          exact ⟨rfl, Below.refl _ _⟩
      · go_enter Tryf.func3, Tryf.ntmps3
        go_wp2
        go_ret
        exact ⟨rfl, Below.refl _ _⟩
    · go_enter Tryf.func3, Tryf.ntmps3
      go_wp2
      go_ret
      exact ⟨rfl, Below.refl _ _⟩
  · go_enter Tryf.func3, Tryf.ntmps3
    go_wp2
    go_ret
    exact ⟨rfl, Below.refl _ _⟩

theorem key_FnUnwrapGivesInnerBack (F : Interp) (a0 : ByteArray) (a1 a2 a3 : Int) (a4 : ByteArray) (a5 a6 a7 : Int) (a8 a9 : ByteArray) (w0 : a0.size ≤ maxLen) (w1 : (Lit.int .i64 a1).wf = true) (w2 : (Lit.int .i64 a2).wf = true) (w3 : (Lit.int .i64 a3).wf = true) (w4 : a4.size ≤ maxLen) (w5 : (Lit.int .i64 a5).wf = true) (w6 : (Lit.int .i64 a6).wf = true) (w7 : (Lit.int .i64 a7).wf = true) (w8 : a8.size ≤ maxLen) (w9 : a9.size ≤ maxLen) (W : World) (hF : F.told.answers W.tape) :
    Calls Tryf.prog 3 #[.string a0, .int .i64 a1, .int .i64 a2, .int .i64 a3, .string a4, .int .i64 a5, .int .i64 a6, .int .i64 a7, .string a8, .string a9] W fun e w' => e = .returned (.bool true) ∧ Below W.heap.size W w' := by
  unfold maxLen at w0 w4 w8 w9
  by_cases hs : a0.size + a4.size + a8.size + a9.size ≤ 1048576
  · exact unwrap_ok F.told a0 a4 a8 a9 a1 a2 a3 a5 a6 a7 W hF hs
  · exact unwrap_no a0 a4 a8 a9 a1 a2 a3 a5 a6 a7 W w0 w4 w8 w9 hs
end Go.Proofs.YtcjohdbojepmfaaFmt
