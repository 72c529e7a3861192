/- Two ParseErrors that differ only in Pos.Offset format to the same text: FnFormatErrorIgnoresOffset returns true for every input. The texts of fmt are told by the form's own function. -/
import Derived.Test.YtkplhbmfjfhenaaFmtWalks
import Derived.ProofKit
import Derived.OpenShut
import Derived.Stop.JoinedAt
import Derived.Stop.JoinedTold
import Derived.SizedLaws
import Derived.SevenToldRow
namespace Go.Proofs.YtkplhbmfjfhenaaFmt
open Go.ChangeShapes Go.WideShapes Go.ChangeAt Go.RowKit Go.Kit
open Go.ChangeMaps (open_string shut_string)
open Go.Extern.Stop Go.Stop Go.Extern
set_option linter.unusedVariables false

set_option maxHeartbeats 1600000 in
theorem walk_ok (F : Interp) (a0 a5 T : ByteArray) (a1 a2 a3 a4 : Int) (w : World) (hF : F.answers w.tape) (hs : a0.size + a5.size ≤ 1048576)
    (hT0 : T.size ≤ 1000) (hT1 : T.toList.isEmpty = false) (hT : FmtStop.textOf (F "fmt.Sprintf" (posReading a3 a4) 0) = T) :
    Calls Tryf.prog 3 #[.string a0, .int .i64 a1, .int .i64 a2, .int .i64 a3, .int .i64 a4, .string a5] w fun e w' => e = .returned (.bool true) ∧ Below w.heap.size w w' := by
  have HT := Lib.hid hT
  clear hT
  go_enter Tryf.func3, Tryf.ntmps3
  go_wp2_with (first | (go_at_call 4; go_in) | (go_at_call 5; go_in))
  refine (fe_any F a0 a5 T a1 a3 a4 (w.heap.size + 1) _ (by exact hF) (by simp) (by go_simp) (by go_simp) (by go_simp) (by go_simp) (by go_simp) (by omega) hT0 hT1 HT.out).mono ?_
  rintro e w1 ⟨rfl, hb1⟩
  have ht1 := hb1.tape
  have hsz := hb1.size
  simp at hsz
  have hbb : Below w.heap.size w w1 := (show Below w.heap.size w _ by go_grown).trans (hb1.mono (by simp; omega))
  have c0 : w1.cell? ⟨w.heap.size + 1 + 1 + 1, 0, none⟩ = some (.string a5) := (hb1.cell (by simp)).trans (by go_simp)
  have c1 : w1.cell? ⟨w.heap.size + 1 + 1 + 1, 1, none⟩ = some (.string a0) := (hb1.cell (by simp)).trans (by go_simp)
  have c2 : w1.cell? ⟨w.heap.size + 1 + 1 + 1, 2, none⟩ = some (.int .i64 a2) := (hb1.cell (by simp)).trans (by go_simp)
  have c3 : w1.cell? ⟨w.heap.size + 1 + 1 + 1, 3, none⟩ = some (.int .i64 a3) := (hb1.cell (by simp)).trans (by go_simp)
  have c4 : w1.cell? ⟨w.heap.size + 1 + 1 + 1, 4, none⟩ = some (.int .i64 a4) := (hb1.cell (by simp)).trans (by go_simp)
  have hF1 : F.answers w1.tape := by rw [ht1]; exact hF
  clear hb1 ht1
  go_wp2_with fail
  refine (fe_any F a0 a5 T a2 a3 a4 (w.heap.size + 1 + 1 + 1) _ (by exact hF1) (by omega) c0 c1 c2 c3 c4 (by omega) hT0 hT1 HT.out).mono ?_
  rintro e w2 ⟨rfl, hb2⟩
  have hb3 : Below w.heap.size w w2 := hbb.trans (hb2.mono (by omega))
  clear hb2
  go_wp2
  go_ret
  exact ⟨by simp, hb3⟩

set_option maxHeartbeats 800000 in
theorem walk_no (a0 a5 : ByteArray) (a1 a2 a3 a4 : Int) (w : World) (h0 : a0.size ≤ 9223372036854775807) (h5 : a5.size ≤ 9223372036854775807) (hs : ¬ a0.size + a5.size ≤ 1048576) :
    Calls Tryf.prog 3 #[.string a0, .int .i64 a1, .int .i64 a2, .int .i64 a3, .int .i64 a4, .string a5] w fun e w' => e = .returned (.bool true) ∧ Below w.heap.size w w' := by
  by_cases g0 : a0.size ≤ 1048576
  · by_cases g5 : a5.size ≤ 1048576
    · go_enter Tryf.func3, Tryf.ntmps3
      go_wp2
      go_ret
      exact ⟨rfl, Below.refl _ _⟩
    · go_enter Tryf.func3, Tryf.ntmps3
      go_wp2
      go_ret
      exact ⟨rfl, Below.refl _ _⟩
  · go_enter Tryf.func3, Tryf.ntmps3
    go_wp2
    go_ret
    exact ⟨rfl, Below.refl _ _⟩

theorem own : ownKnob Tryf.prog.godebug = none := by kernel_rfl

set_option maxRecDepth 100000 in
theorem lifted (os : Os) (started : os.Started) (H : Type) (enc : TypeId × Value → H) :
    ReturnsInTold none {} Tryf.checked os 3 .any Input.okWide ((OpenSpec.ofChange Rows.fnFormatErrorIgnoresOffsetSpec).preRow enc Tryf.prog Tryf.f3 [] false []) (fun F => ((OpenSpec.ofChange Rows.fnFormatErrorIgnoresOffsetSpec).at F).post enc Tryf.prog Tryf.f3 false true false false) (aloneAtReturn Tryf.prog) nothingAlways := by
  refine returnsInTold_of_row (C := Tryf.checked) (s := OpenSpec.ofChange Rows.fnFormatErrorIgnoresOffsetSpec) (by kernel_rfl) own started (by kernel_rfl) Tryf.func3
    (OpenSpec.witness_stopped (enc := enc) (C := Tryf.checked) false ⟨#[], #[.string ⟨#[]⟩, .int .i64 0, .int .i64 0, .int .i64 0, .int .i64 0, .string ⟨#[]⟩], []⟩ 8 (by kernel_rfl) (by kernel_rfl) (by kernel_rfl) (by kernel_rfl)) ?_
  intro F W base args ds gs before _ hF hval0 hW _ _ hsz _ _
  have hval : ∀ (j : Nat) t v, Tryf.f3.params[j]? = some t → args[j]? = some v → Value.okWide Tryf.prog W .any base t v := hval0
  have hW' := hW
  obtain ⟨p, q, hA0, hV, rfl, hfz, hnd⟩ := hW
  have hA : DataW.TrodAll enc Tryf.prog W 0 (fun _ => true) true Tryf.f3.params.toList args.toList ds p := hA0
  rw [Tryf.params3] at hA hval
  obtain ⟨v0, vs0, d0, ds0, p0, q0, hargs, rfl, rfl, h0, r0⟩ := trodAll_cons hA
  obtain ⟨v1, vs1, d1, ds1, p1, q1, rfl, rfl, rfl, h1, r1⟩ := trodAll_cons r0
  obtain ⟨v2, vs2, d2, ds2, p2, q2, rfl, rfl, rfl, h2, r2⟩ := trodAll_cons r1
  obtain ⟨v3, vs3, d3, ds3, p3, q3, rfl, rfl, rfl, h3, r3⟩ := trodAll_cons r2
  obtain ⟨v4, vs4, d4, ds4, p4, q4, rfl, rfl, rfl, h4, r4⟩ := trodAll_cons r3
  obtain ⟨v5, vs5, d5, ds5, p5, q5, rfl, rfl, rfl, h5, r5⟩ := trodAll_cons r4
  obtain ⟨rfl, rfl, rfl⟩ := trodAll_nil r5
  obtain rfl : args = #[v0, v1, v2, v3, v4, v5] := by cases args; simp_all
  obtain ⟨rfl, rfl⟩ := trodVars_none hV
  obtain ⟨a0, rfl, rfl, rfl, w0⟩ := open_string Tryf.underlying9 (hval 0 9 v0 rfl rfl) h0
  obtain ⟨a1, rfl, rfl, rfl, w1⟩ := open_int Tryf.underlying3 (hval 1 3 v1 rfl rfl) h1
  obtain ⟨a2, rfl, rfl, rfl, w2⟩ := open_int Tryf.underlying3 (hval 2 3 v2 rfl rfl) h2
  obtain ⟨a3, rfl, rfl, rfl, w3⟩ := open_int Tryf.underlying3 (hval 3 3 v3 rfl rfl) h3
  obtain ⟨a4, rfl, rfl, rfl, w4⟩ := open_int Tryf.underlying3 (hval 4 3 v4 rfl rfl) h4
  obtain ⟨a5, rfl, rfl, rfl, w5⟩ := open_string Tryf.underlying9 (hval 5 9 v5 rfl rfl) h5
  clear hA0 hval0
  simp only [List.append_nil] at hW'
  have key : Calls Tryf.prog 3 #[.string a0, .int .i64 a1, .int .i64 a2, .int .i64 a3, .int .i64 a4, .string a5] W fun e w' => e = .returned (.bool true) ∧ Below W.heap.size W w' := by
    by_cases hs : a0.size + a5.size ≤ 1048576
    · exact walk_ok F.told a0 a5 _ a1 a2 a3 a4 W hF hs (told_pos_size F a3 a4 w3 w4).1 (told_pos_size F a3 a4 w3 w4).2 rfl
    · exact walk_no a0 a5 a1 a2 a3 a4 W w0 w5 hs
  refine key.mono fun e W' ⟨he, hg⟩ => ?_
  subst he
  refine ⟨_, rfl, _, _, _, [], [], [], hW', ?_, ?_, rfl, hg.frame _, fun h => by cases h⟩
  · exact trodAll_cons_mk (shut_bool Tryf.underlying4 _) trodAll_mk0
  · exact trodAll_cons_mk (shut_string Tryf.underlying9 w0) (trodAll_cons_mk (shut_int Tryf.underlying3 w1) (trodAll_cons_mk (shut_int Tryf.underlying3 w2) (trodAll_cons_mk (shut_int Tryf.underlying3 w3) (trodAll_cons_mk (shut_int Tryf.underlying3 w4) (trodAll_cons_mk (shut_string Tryf.underlying9 w5) trodAll_mk0)))))

theorem laidOut : laidOutB Tryf.pinned.checked.prog = true := by kernel_rfl
theorem stopKnobs : Tryf.pinned.checked.prog.stopKnobs = [] := by kernel_rfl
theorem quiet (os : Os) : Stop.quiet Tryf.pinned.checked.prog os := by
  intro k hk
  rw [stopKnobs] at hk
  cases hk

theorem proved : Rows.FnFormatErrorIgnoresOffsetToldSaid :=
  Claim7.holds_of_told_any 3 Tryf.f3 _ _ [] _ _ _ (by kernel_rfl) rfl rfl rfl laidOut (by kernel_rfl) rfl ⟨rfl, rfl, rfl, rfl, rfl, rfl, rfl⟩ rfl rfl (by kernel_rfl) (by kernel_rfl) Tryf.func3 (by kernel_rfl)
    (of_decide_eq_true (by kernel_rfl)) (of_decide_eq_true (by kernel_rfl)) (by kernel_rfl) rfl stopKnobs.symm (by kernel_rfl)
    (by kernel_rfl) (by kernel_rfl) (by kernel_rfl) (by kernel_rfl) (by kernel_rfl) (by kernel_rfl) (by kernel_rfl) (by kernel_rfl) (by kernel_rfl) rfl (by kernel_rfl) rfl rfl
    rfl rfl
    rfl (by kernel_rfl) (by kernel_rfl) (by kernel_rfl) (by decide) (by kernel_rfl)
    (OpenClaim.moreEntering_of (by kernel_rfl) (by kernel_rfl) (by kernel_rfl) (by kernel_rfl) (by kernel_rfl) (by kernel_rfl) (by kernel_rfl) (by kernel_rfl) (by kernel_rfl) (by kernel_rfl))
    ⟨_, WideRow.started_initial, quiet _⟩
    (fun os started _ H enc _ => lifted os started H enc)
#print axioms proved
end Go.Proofs.YtkplhbmfjfhenaaFmt
