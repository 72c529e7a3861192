/- Contracts: Errorf told, and ZZerrorfParts: the position, the message and the text of what Errorf gives. -/
import Derived.Test.YtcjohdbojepmfaaFmtStrs
namespace Go.Proofs.YtcjohdbojepmfaaFmt
open Go.RowKit Go.Extern.Stop Go.Stop Go.Extern
set_option linter.unusedVariables false

theorem kept_cells {W w1 : World} (hb : Below W.heap.size W w1) : (∀ b o, b < W.heap.size → w1.cell? ⟨b, o, none⟩ = W.cell? ⟨b, o, none⟩) ∧ (∀ b o, b < W.heap.size → w1.frozen? ⟨b, o, none⟩ = W.frozen? ⟨b, o, none⟩) :=
  ⟨fun b o h => hb.cell (p := ⟨b, o, none⟩) h, fun b o h => hb.frozen (p := ⟨b, o, none⟩) h⟩

/-- Four cells of one block, written one behind the other, read as written. -/
theorem four_cells {w : World} {B : Nat} {u0 u1 u2 u3 : Value} (v0 v1 v2 v3 : Value) (c0 : w.cell? ⟨B, 0, none⟩ = some u0) (c1 : w.cell? ⟨B, 1, none⟩ = some u1) (c2 : w.cell? ⟨B, 2, none⟩ = some u2) (c3 : w.cell? ⟨B, 3, none⟩ = some u3) :
    (w.setCell ⟨B, 0, none⟩ v0).cell? ⟨B, 0, none⟩ = some v0 ∧ ((w.setCell ⟨B, 0, none⟩ v0).setCell ⟨B, 1, none⟩ v1).cell? ⟨B, 1, none⟩ = some v1 ∧
    (((w.setCell ⟨B, 0, none⟩ v0).setCell ⟨B, 1, none⟩ v1).setCell ⟨B, 2, none⟩ v2).cell? ⟨B, 2, none⟩ = some v2 ∧
    ((((w.setCell ⟨B, 0, none⟩ v0).setCell ⟨B, 1, none⟩ v1).setCell ⟨B, 2, none⟩ v2).setCell ⟨B, 3, none⟩ v3).cell? ⟨B, 3, none⟩ = some v3 := by
  refine ⟨World.cell?_setCell_same _ _ _ c0, World.cell?_setCell_same _ _ _ (u := u1) ?_, World.cell?_setCell_same _ _ _ (u := u2) ?_, World.cell?_setCell_same _ _ _ (u := u3) ?_⟩
  · rw [World.cell?_setCell_other _ _ _ _ (by simp)]; exact c1
  · rw [World.cell?_setCell_other _ _ _ _ (by simp), World.cell?_setCell_other _ _ _ _ (by simp)]; exact c2
  · rw [World.cell?_setCell_other _ _ _ _ (by simp), World.cell?_setCell_other _ _ _ _ (by simp), World.cell?_setCell_other _ _ _ _ (by simp)]; exact c3

theorem errorf_t (F : Interp) (fn m M : ByteArray) (off l c : Int) (b : Nat) (w : World) (hF : F.answers w.tape) (hb : b < w.heap.size)
    (h0 : w.cell? ⟨b, 0, none⟩ = some (.iface 9 (.string m))) (hM : FmtStop.textOf (F "fmt.Sprintf" (sReading m.data.toList) 0) = M) :
    Calls Tryf.prog 13 #[.agg #[.string fn, .int .i64 off, .int .i64 l, .int .i64 c], .string ⟨#[37, 115]⟩, .slice (some ⟨b, 0, none⟩) 1 1] w fun e w' =>
      e = .returned (.iface 25 (.pointer (some ⟨w.heap.size + 1, 0, none⟩))) ∧
      w' = ((w.alloc (.cells #[.string fn, .int .i64 off, .int .i64 l, .int .i64 c] 24)).alloc (.cells #[.string M, .string fn, .int .i64 off, .int .i64 l, .int .i64 c] 29)).drew.drew := by
  subst hM
  exact errorf_s F fn m off l c b w hF hb h0

set_option maxHeartbeats 1600000 in
theorem parts8 (F : Interp) (fn m M T : ByteArray) (off l c : Int) (w : World) (hF : F.answers w.tape) (hs : fn.size + M.size ≤ 4194304)
    (hM : FmtStop.textOf (F "fmt.Sprintf" (sReading m.data.toList) 0) = M)
    (hT0 : T.size ≤ 1000) (hT1 : T.toList.isEmpty = false) (hT : FmtStop.textOf (F "fmt.Sprintf" (posReading l c) 0) = T) :
    Calls Tryf.prog 8 #[.agg #[.string fn, .int .i64 off, .int .i64 l, .int .i64 c], .string m] w fun e w' =>
      e = .returned (.tuple #[.agg #[.string fn, .int .i64 off, .int .i64 l, .int .i64 c], .string M, .string (feOf fn M T l c)]) ∧ Below w.heap.size w w' := by
  have HT := Lib.hid hT
  have HM := Lib.hid hM
  clear hT hM
  go_enter Tryf.func8, Tryf.ntmps8
  go_wp2_with fail
  refine (errorf_t F fn m M off l c _ _ (by exact hF) (by simp) (by go_simp) HM.out).mono ?_
  rintro e w1 ⟨rfl, rfl⟩
  go_wp2_with (first | (go_at_call 33; go_in) | (go_at_call 34; go_in) | (go_at_call 32; go_in) | go_invoke)
  refine (fe_any F fn M T off l c (w.heap.size + 1 + 1 + 1 + 1) _ (by exact hF) (by simp) (by go_simp) (by go_simp) (by go_simp) (by go_simp) (by go_simp) (by omega) hT0 hT1 HT.out).mono ?_
  rintro e w2 ⟨rfl, hb⟩
  obtain ⟨hc, hf⟩ := kept_cells hb
  have hz := hb.size
  simp at hz
  have hbb : Below w.heap.size w w2 := (show Below w.heap.size w _ by go_grown).trans (hb.mono (by simp; omega))
  have HBB := Lib.hid hbb
  have c0 : w2.cell? ⟨w.heap.size + 1, 0, none⟩ = some (.string ⟨#[]⟩) := (hc _ _ (by simp)).trans (by go_simp)
  have c1 : w2.cell? ⟨w.heap.size + 1, 1, none⟩ = some (.int .i64 0) := (hc _ _ (by simp)).trans (by go_simp)
  have c2 : w2.cell? ⟨w.heap.size + 1, 2, none⟩ = some (.int .i64 0) := (hc _ _ (by simp)).trans (by go_simp)
  have c3 : w2.cell? ⟨w.heap.size + 1, 3, none⟩ = some (.int .i64 0) := (hc _ _ (by simp)).trans (by go_simp)
  have f0 : w2.frozen? ⟨w.heap.size + 1, 0, none⟩ = false := (hf _ _ (by simp)).trans (by go_simp)
  have f1 : w2.frozen? ⟨w.heap.size + 1, 1, none⟩ = false := (hf _ _ (by simp)).trans (by go_simp)
  have f2 : w2.frozen? ⟨w.heap.size + 1, 2, none⟩ = false := (hf _ _ (by simp)).trans (by go_simp)
  have f3 : w2.frozen? ⟨w.heap.size + 1, 3, none⟩ = false := (hf _ _ (by simp)).trans (by go_simp)
  clear hb hbb hc hf
  go_wp2
  obtain ⟨g0, g1, g2, g3⟩ := four_cells (.string fn) (.int .i64 off) (.int .i64 l) (.int .i64 c) c0 c1 c2 c3
  refine bodyPost_ret (v := .tuple #[.agg #[.string fn, .int .i64 off, .int .i64 l, .int .i64 c], .string M, .string (feOf fn M T l c)]) (by simp [results, Tryf.results8, go_sem, g0, g1, g2, g3]) rfl ⟨rfl, ?_⟩
  exact (((HBB.out.setCell (by simp) _).setCell (by simp) _).setCell (by simp) _).setCell (by simp) _
end Go.Proofs.YtcjohdbojepmfaaFmt
