/- When the line or the column is non-zero, the text of Errorf opens with the filename and a colon (where it is set), ends with a blank and the message, and is at least five bytes longer than these: FnErrorfTextFrame returns true for every input. The texts of fmt are told by the form's own function. -/
import Derived.Test.YtcjohdbojepmfaaFmtParts
namespace Go.Proofs.YtcjohdbojepmfaaFmt
open Go.RowKit Go.Extern.Stop Go.Stop Go.Extern
set_option linter.unusedVariables false

theorem parts8' (F : Interp) (fn m T X : ByteArray) (off l c : Int) (w : World) (hF : F.answers w.tape) (hs : fn.size + m.size ≤ 4194304)
    (hM : FmtStop.textOf (F "fmt.Sprintf" (sReading m.data.toList) 0) = m)
    (hT0 : T.size ≤ 1000) (hT1 : T.toList.isEmpty = false) (hT : FmtStop.textOf (F "fmt.Sprintf" (posReading l c) 0) = T) (hX : feOf fn m T l c = X) :
    Calls Tryf.prog 8 #[.agg #[.string fn, .int .i64 off, .int .i64 l, .int .i64 c], .string m] w fun e w' =>
      e = .returned (.tuple #[.agg #[.string fn, .int .i64 off, .int .i64 l, .int .i64 c], .string m, .string X]) ∧ Below w.heap.size w w' := by
  subst hX
  exact parts8 F fn m m T off l c w hF hs hM hT0 hT1 hT

theorem feOf_e (fn m T : ByteArray) (l c : Int) (hf : fn.size = 0) (hn : ¬ (l = 0 ∧ c = 0)) : (feOf fn m T l c).data.toList = T.data.toList ++ (32 :: m.data.toList) := by
  rw [feOf, if_pos hf, if_neg hn]; simp

theorem feOf_f (fn m T : ByteArray) (l c : Int) (hf : ¬ fn.size = 0) (hn : ¬ (l = 0 ∧ c = 0)) : (feOf fn m T l c).data.toList = fn.data.toList ++ (58 :: (T.data.toList ++ (32 :: m.data.toList))) := by
  rw [feOf, if_neg hf, if_neg hn]; simp

set_option maxHeartbeats 1600000 in
theorem frame_e (F : Interp) (a4 T : ByteArray) (a1 a2 a3 : Int) (w : World) (hF : F.answers w.tape) (hs : a4.size ≤ 1048576)
    (hg : (a2 == 0) = false ∨ ((a2 == 0) = true ∧ (a3 == 0) = false))
    (hM : FmtStop.textOf (F "fmt.Sprintf" (sReading a4.data.toList) 0) = a4) (hT3 : 4 ≤ T.size)
    (hT0 : T.size ≤ 1000) (hT1 : T.toList.isEmpty = false) (hT : FmtStop.textOf (F "fmt.Sprintf" (posReading a2 a3) 0) = T) :
    Calls Tryf.prog 4 #[.string ⟨#[]⟩, .int .i64 a1, .int .i64 a2, .int .i64 a3, .string a4] w fun e w' => e = .returned (.bool true) ∧ Below w.heap.size w w' := by
  have hn : ¬ (a2 = 0 ∧ a3 = 0) := by
    rintro ⟨rfl, rfl⟩
    simp at hg
  obtain ⟨X, hX⟩ : ∃ X, feOf ⟨#[]⟩ a4 T a2 a3 = X := ⟨_, rfl⟩
  have hXl : X.data.toList = T.data.toList ++ (32 :: a4.data.toList) := by rw [← hX]; exact feOf_e _ _ _ _ _ rfl hn
  have hXs : X.size = T.size + (a4.size + 1) := by rw [← bytes_size X, hXl]; simp
  have HX := Lib.hid hX
  have HXl := Lib.hid hXl
  have hX1 : X.size ≤ T.size + (a4.size + 1) := by omega
  have hX2 : T.size + (a4.size + 1) ≤ X.size := by omega
  have HT := Lib.hid hT
  have HM := Lib.hid hM
  clear hT hM hX hXl hXs hn
  rcases hg with h2 | ⟨h2, h3⟩
  all_goals
    go_enter Tryf.func4, Tryf.ntmps4
    go_wp2_with (first | (go_at_call 7; go_in))
    refine (parts8' F ⟨#[]⟩ a4 T X a1 a2 a3 _ (by exact hF) (by have h00 : (⟨#[]⟩ : ByteArray).size = 0 := rfl; omega) HM.out hT0 hT1 HT.out HX.out).mono ?_
    rintro e w1 ⟨rfl, hb1⟩
    have hz := hb1.size
    simp at hz
    have HB1 := Lib.hid ((show Below w.heap.size w _ by go_grown).trans (hb1.mono (by simp)))
    clear hb1
    go_wp2_with fail
    refine (hasPrefix_yes X _ X.data.toList _ (by omega) (by simp)).mono ?_
    rintro e w2 ⟨rfl, hb2⟩
    have HB2 := Lib.hid (HB1.out.trans ((show Below w.heap.size _ _ by go_grown).trans (hb2.mono (by simp; omega))))
    have hz2 := hb2.size
    simp at hz2
    clear hb2
    go_wp2_with fail
    refine (hasSuffix_yes X _ T.data.toList _ (by omega) (by rw [HXl.out]; simp)).mono ?_
    rintro e w3 ⟨rfl, hb3⟩
    have HB3 := Lib.hid (HB2.out.trans (hb3.mono (by omega)))
    clear hb3
    go_wp2
    go_ret
    exact ⟨by simp; omega, HB3.out⟩

set_option maxHeartbeats 1600000 in
theorem frame_f (F : Interp) (a0 a4 T : ByteArray) (a1 a2 a3 : Int) (w : World) (hF : F.answers w.tape) (hs : a0.size + a4.size ≤ 1048576) (hf : a0.toList.isEmpty = false)
    (hg : (a2 == 0) = false ∨ ((a2 == 0) = true ∧ (a3 == 0) = false))
    (hM : FmtStop.textOf (F "fmt.Sprintf" (sReading a4.data.toList) 0) = a4) (hT3 : 4 ≤ T.size)
    (hT0 : T.size ≤ 1000) (hT1 : T.toList.isEmpty = false) (hT : FmtStop.textOf (F "fmt.Sprintf" (posReading a2 a3) 0) = T) :
    Calls Tryf.prog 4 #[.string a0, .int .i64 a1, .int .i64 a2, .int .i64 a3, .string a4] w fun e w' => e = .returned (.bool true) ∧ Below w.heap.size w w' := by
  have hn : ¬ (a2 = 0 ∧ a3 = 0) := by
    rintro ⟨rfl, rfl⟩
    simp at hg
  obtain ⟨X, hX⟩ : ∃ X, feOf a0 a4 T a2 a3 = X := ⟨_, rfl⟩
  have hf0 := size_ne hf
  have hXl : X.data.toList = a0.data.toList ++ (58 :: (T.data.toList ++ (32 :: a4.data.toList))) := by rw [← hX]; exact feOf_f _ _ _ _ _ (by omega) hn
  have hXs : X.size = a0.size + (T.size + (a4.size + 1) + 1) := by rw [← bytes_size X, hXl]; simp
  have HX := Lib.hid hX
  have HXl := Lib.hid hXl
  have hX1 : X.size ≤ a0.size + (T.size + (a4.size + 1) + 1) := by omega
  have hX2 : a0.size + (T.size + (a4.size + 1) + 1) ≤ X.size := by omega
  have HT := Lib.hid hT
  have HM := Lib.hid hM
  clear hT hM hX hXl hXs hn
  rcases hg with h2 | ⟨h2, h3⟩
  all_goals
    go_enter Tryf.func4, Tryf.ntmps4
    go_wp2_with (first | (go_at_call 7; go_in))
    refine (parts8' F a0 a4 T X a1 a2 a3 _ (by exact hF) (by omega) HM.out hT0 hT1 HT.out HX.out).mono ?_
    rintro e w1 ⟨rfl, hb1⟩
    have hz := hb1.size
    simp at hz
    have HB1 := Lib.hid ((show Below w.heap.size w _ by go_grown).trans (hb1.mono (by simp)))
    clear hb1
    go_wp2_with fail
    refine (hasPrefix_yes X _ (T.data.toList ++ (32 :: a4.data.toList)) _ (by omega) (by rw [HXl.out]; simp)).mono ?_
    rintro e w2 ⟨rfl, hb2⟩
    have HB2 := Lib.hid (HB1.out.trans ((show Below w.heap.size _ _ by go_grown).trans (hb2.mono (by simp; omega))))
    have hz2 := hb2.size
    simp at hz2
    clear hb2
    go_wp2_with fail
    refine (hasSuffix_yes X _ (a0.data.toList ++ (58 :: T.data.toList)) _ (by omega) (by rw [HXl.out]; simp)).mono ?_
    rintro e w3 ⟨rfl, hb3⟩
    have HB3 := Lib.hid (HB2.out.trans (hb3.mono (by omega)))
    clear hb3
    go_wp2
    go_ret
    exact ⟨by simp; omega, HB3.out⟩

set_option maxHeartbeats 800000 in
theorem frame_zero (a0 a4 : ByteArray) (a1 : Int) (w : World) (hs : a0.size + a4.size ≤ 1048576) :
    Calls Tryf.prog 4 #[.string a0, .int .i64 a1, .int .i64 0, .int .i64 0, .string a4] w fun e w' => e = .returned (.bool true) ∧ Below w.heap.size w w' := by
  go_enter Tryf.func4, Tryf.ntmps4
  go_wp2
  go_ret
  exact ⟨rfl, Below.refl _ _⟩

set_option maxHeartbeats 800000 in
theorem frame_no (a0 a4 : ByteArray) (a1 a2 a3 : Int) (w : World) (h0 : a0.size ≤ 9223372036854775807) (h4 : a4.size ≤ 9223372036854775807) (hs : ¬ a0.size + a4.size ≤ 1048576) :
    Calls Tryf.prog 4 #[.string a0, .int .i64 a1, .int .i64 a2, .int .i64 a3, .string a4] w fun e w' => e = .returned (.bool true) ∧ Below w.heap.size w w' := by
  by_cases g0 : a0.size ≤ 1048576
  · by_cases g4 : a4.size ≤ 1048576
    · go_enter Tryf.func4, Tryf.ntmps4
      go_wp2
      go_ret
      exact ⟨rfl, Below.refl _ _⟩
    · go_enter Tryf.func4, Tryf.ntmps4
      go_wp2
      go_ret
      exact ⟨rfl, Below.refl _ _⟩
  · go_enter Tryf.func4, Tryf.ntmps4
    go_wp2
    go_ret
    exact ⟨rfl, Below.refl _ _⟩

/-- WHAT fmt.Sprintf IS TOLD TO GIVE for one string under %s: the string. -/
theorem s_text (m : List UInt8) (h : m.length < 2 ^ 64) : FmtText.text "fmt.Sprintf" (sReading m) = some m := by
  have h1 := FmtText.operand_str_at (sh := Tryf.shape9) rfl rfl m h
  rw [sReading, FmtText.text_sprintf_glued Tryf.fmt1t (FmtText.operands_cons h1 FmtText.operands_nil)]
  simp [FmtText.render, FmtText.printArg_s_str]

theorem bytes_ext {a b : ByteArray} (h : a.data.toList = b.data.toList) : a = b := by
  cases a with
  | mk x => cases b with
    | mk y => cases x with
      | mk l => cases y with
        | mk r => simp at h; rw [h]

theorem told_s (F : Interp) (m : ByteArray) (h : m.size ≤ 4194304) : FmtStop.textOf (F.told "fmt.Sprintf" (sReading m.data.toList) 0) = m := by
  have hl := bytes_size m
  refine bytes_ext ?_
  rw [Go.Kit.textOf_list]
  exact told_string F (s_text m.data.toList (by omega)) (by omega)

theorem digits_pos (u : Nat) : 1 ≤ (Lib.decDigits u).length := by
  unfold Lib.decDigits
  split
  · simp
  · simp

theorem itoa_pos (x : Int) : 1 ≤ (Lib.itoa x).length := by
  unfold Lib.itoa
  split
  · simp
  · exact digits_pos _

theorem key_FnErrorfTextFrame (F : Interp) (a0 : ByteArray) (a1 a2 a3 : Int) (a4 : ByteArray) (w0 : a0.size ≤ maxLen) (w1 : (Lit.int .i64 a1).wf = true) (w2 : (Lit.int .i64 a2).wf = true) (w3 : (Lit.int .i64 a3).wf = true) (w4 : a4.size ≤ maxLen) (W : World) (hF : F.told.answers W.tape) :
    Calls Tryf.prog 4 #[.string a0, .int .i64 a1, .int .i64 a2, .int .i64 a3, .string a4] W fun e w' => e = .returned (.bool true) ∧ Below W.heap.size W w' := by
  unfold maxLen at w0 w4
  by_cases hs : a0.size + a4.size ≤ 1048576
  · by_cases hz : a2 = 0 ∧ a3 = 0
    · obtain ⟨rfl, rfl⟩ := hz
      exact frame_zero a0 a4 a1 W hs
    · have hg : (a2 == 0) = false ∨ ((a2 == 0) = true ∧ (a3 == 0) = false) := by
        by_cases h2 : a2 = 0
        · exact Or.inr ⟨by simp [h2], by simp; exact fun h3 => hz ⟨h2, h3⟩⟩
        · exact Or.inl (by simp [h2])
      have ht := told_pos_size F a2 a3 w2 w3
      have hm := told_s F a4 (by omega)
      have h4 : 4 ≤ (FmtStop.textOf (F.told "fmt.Sprintf" (posReading a2 a3) 0)).size := by
        rw [← bytes_size, told_pos F a2 a3 w2 w3]
        have e1 := itoa_pos a2
        have e2 := itoa_pos a3
        simp [posText]; omega
      by_cases hf : a0.size = 0
      · obtain rfl := size_zero hf
        exact frame_e F.told a4 _ a1 a2 a3 W hF (by omega) hg hm h4 ht.1 ht.2 rfl
      · exact frame_f F.told a0 a4 _ a1 a2 a3 W hF hs (ne_size _ (by omega)) hg hm h4 ht.1 ht.2 rfl
  · exact frame_no a0 a4 a1 a2 a3 W w0 w4 hs
end Go.Proofs.YtcjohdbojepmfaaFmt
