/- GoString of a literal, told, and the law's own walk: the text reads back as the two fields. -/
import Derived.Test.YtfldnaoaepbgiaaFmtDec
import Derived.Stop.Texts
import Derived.Stop.Told
import Derived.Stop.FmtTextKit
namespace Go.Proofs.YtfldnaoaepbgiaaFmt
open Go.RowKit Go.Extern.Stop Go.Stop Go.Extern
set_option linter.unusedVariables false

def qReading (m n : List UInt8) : List (List UInt8) := [[108, 105, 116, 101, 114, 97, 108, 123, 37, 113, 44, 32, 37, 113, 125], Tryf.shape9, FmtStop.pack m, Tryf.shape9, FmtStop.pack n]

set_option maxHeartbeats 800000 in
theorem goString (F : Interp) (s tt X : ByteArray) (b : Nat) (w : World) (hF : F.answers w.tape) (hb : b < w.heap.size)
    (h0 : w.cell? ⟨b, 0, none⟩ = some (.string s)) (h2 : w.cell? ⟨b, 2, none⟩ = some (.string tt)) (hX : FmtStop.textOf (F "fmt.Sprintf" (qReading s.data.toList tt.data.toList) 0) = X) :
    Calls Tryf.prog 7 #[.pointer (some ⟨b, 0, none⟩)] w fun e w' => e = .returned (.string X) ∧ Below w.heap.size w w' := by
  subst hX
  have hF' := answers_open hF
  have b1 : b < w.heap.size + 1 := by omega
  go_enter Tryf.func7, Tryf.ntmps7
  go_wp2
  go_region_with (fail)
  all_goals
    go_wp2
    go_ret
    exact ⟨rfl, by go_grown⟩

theorem bytes_ext {a b : ByteArray} (h : a.data.toList = b.data.toList) : a = b := by
  cases a with
  | mk x => cases b with
    | mk y => cases x with
      | mk l => cases y with
        | mk r => simp at h; rw [h]

theorem dec_at (q s : ByteArray) (iI : Int) (i J : Nat) (w : World) (l : List (List UInt8 × List UInt8)) (post : List UInt8) (hiI : iI = (i : Int)) (hq : q.size ≤ 4194304) (hz : s.size ≤ 4194304) (hs : s.data.toList = decs l) (hJ : J = i + 1 + (codes l).length + 1)
    (hl : ∀ x ∈ l, Plain.Item x.1 x.2) (hd : q.data.toList.drop i = 34 :: (codes l ++ 34 :: post)) :
    Calls Tryf.prog 6 #[.string q, .int .i64 iI] w fun e w' => e = .returned (.tuple #[.string s, .int .i64 (J : Int), .bool true]) ∧ Below w.heap.size w w' := by
  subst hiI hJ
  refine (dec_any q i w l post hq (by rw [← hs, bytes_size]; exact hz) hl hd).mono fun e w' ⟨he, hb⟩ => ⟨?_, hb⟩
  rw [he, ← hs]

set_option maxRecDepth 100000 in
set_option maxHeartbeats 1600000 in
theorem law_ok (F : Interp) (a0 a2 X : ByteArray) (a1 : Int) (J1 J2 : Nat) (w : World) (hF : F.answers w.tape) (h0 : a0.size ≤ 65536) (h2 : a2.size ≤ 65536)
    (hX : Hid (FmtStop.textOf (F "fmt.Sprintf" (qReading a0.data.toList a2.data.toList) 0) = X)) (hq : X.size ≤ 4194304) (h8 : 8 ≤ X.size) (hpre : X.extract 0 8 = ⟨#[108, 105, 116, 101, 114, 97, 108, 123]⟩)
    (d1 : Hid (∀ w, Calls Tryf.prog 6 #[.string X, .int .i64 8] w fun e w' => e = .returned (.tuple #[.string a0, .int .i64 (J1 : Int), .bool true]) ∧ Below w.heap.size w w'))
    (d2 : Hid (∀ w, Calls Tryf.prog 6 #[.string X, .int .i64 ((J1 : Int) + 2)] w fun e w' => e = .returned (.tuple #[.string a2, .int .i64 (J2 : Int), .bool true]) ∧ Below w.heap.size w w'))
    (k1 : J1 + 1 < X.size) (x1 : ((X[J1].toNat : Nat) : Int) = 44) (x2 : ((X[J1 + 1].toNat : Nat) : Int) = 32) (k2 : J2 < X.size) (k3 : ((J2 : Int) == (X.size : Int) - 1) = true) (x3 : ((X[J2].toNat : Nat) : Int) = 125) :
    Calls Tryf.prog 3 #[.string a0, .int .i64 a1, .string a2] w fun e w' => e = .returned (.bool true) ∧ Below w.heap.size w w' := by
  go_enter Tryf.func3, Tryf.ntmps3
  go_wp2_with (first | (go_at_call 4; go_in) | (go_at_call 5; go_in))
  refine (goString F a0 a2 X _ _ (by exact hF) (by simp) (by go_simp) (by go_simp) hX.out).mono ?_
  rintro e w1 ⟨rfl, hb1⟩
  have hz1 := hb1.size
  simp at hz1
  have B1 := Lib.hid ((show Below w.heap.size w _ by go_grown).trans (hb1.mono (by simp)))
  clear hb1
  go_wp2_with fail
  refine (d1.out _).mono ?_
  rintro e w2 ⟨rfl, hb2⟩
  have hz2 := hb2.size
  have B2 := Lib.hid (B1.out.trans (hb2.mono (by omega)))
  clear hb2
  go_wp2_with fail
  refine (d2.out _).mono ?_
  rintro e w3 ⟨rfl, hb3⟩
  have B3 := Lib.hid (B2.out.trans (hb3.mono (by omega)))
  clear hb3
  go_wp2
  go_ret
  exact ⟨by simp, B3.out⟩

set_option maxHeartbeats 800000 in
theorem law_no (a0 a2 : ByteArray) (a1 : Int) (w : World) (h0 : a0.size ≤ 9223372036854775807) (h2 : a2.size ≤ 9223372036854775807) (hs : ¬ a0.size + a2.size ≤ 1048576) :
    Calls Tryf.prog 3 #[.string a0, .int .i64 a1, .string a2] w fun e w' => e = .returned (.bool true) ∧ Below w.heap.size w w' := by
  by_cases g0 : a0.size ≤ 1048576
  · by_cases g2 : a2.size ≤ 1048576
    · go_enter Tryf.func3, Tryf.ntmps3
      go_wp2
      go_ret
      exact ⟨rfl, Below.refl _ _⟩
    · go_enter Tryf.func3, Tryf.ntmps3
      go_wp2
      go_ret
      exact ⟨rfl, Below.refl _ _⟩
  · go_enter Tryf.func3, Tryf.ntmps3
    go_wp2
    go_ret
    exact ⟨rfl, Below.refl _ _⟩

set_option maxHeartbeats 800000 in
theorem law_big (a0 a2 : ByteArray) (a1 : Int) (w : World) (hs : a0.size + a2.size ≤ 1048576) (hb : ¬ (a0.size ≤ 65536 ∧ a2.size ≤ 65536)) :
    Calls Tryf.prog 3 #[.string a0, .int .i64 a1, .string a2] w fun e w' => e = .returned (.bool true) ∧ Below w.heap.size w w' := by
  by_cases g0 : a0.size ≤ 65536
  · have g2 : ¬ a2.size ≤ 65536 := fun h => hb ⟨g0, h⟩
    clear hb
    go_enter Tryf.func3, Tryf.ntmps3
    go_wp2
    go_ret
    exact ⟨rfl, Below.refl _ _⟩
  · clear hb
    go_enter Tryf.func3, Tryf.ntmps3
    go_wp2
    go_ret
    exact ⟨rfl, Below.refl _ _⟩

/-- WHAT fmt.Sprintf IS TOLD TO GIVE for the two fields. -/
def qText (m n : List UInt8) : List UInt8 := [108, 105, 116, 101, 114, 97, 108, 123] ++ (FmtText.quote false m ++ (44 :: 32 :: (FmtText.quote false n ++ [125])))

theorem q_text (m n : List UInt8) (hm : m.length < 2 ^ 64) (hn : n.length < 2 ^ 64) : FmtText.text "fmt.Sprintf" (qReading m n) = some (qText m n) := by
  have h1 := FmtText.operand_str_at (sh := Tryf.shape9) rfl rfl m hm
  have h2 := FmtText.operand_str_at (sh := Tryf.shape9) rfl rfl n hn
  rw [qReading, FmtText.text_sprintf_glued Tryf.fmt0t (FmtText.operands_cons h1 (FmtText.operands_cons h2 FmtText.operands_nil))]
  simp [FmtText.render, FmtText.printArg_q_str, qText]

theorem drop_coded {q : List UInt8} {i : Nat} {c post : List UInt8} (h : q.drop i = 34 :: (c ++ 34 :: post)) : q.drop (i + 1 + c.length + 1) = post := by
  rw [show i + 1 + c.length + 1 = i + (1 + c.length + 1) by omega, ← List.drop_drop, h, show 1 + c.length + 1 = (c.length + 1) + 1 by omega, List.drop_succ_cons, ← List.drop_drop, List.drop_left]
  rfl

theorem key_FnLiteralGoStringDecodesBothFields (F : Interp) (a0 : ByteArray) (a1 : Int) (a2 : ByteArray) (w0 : a0.size ≤ maxLen) (w1 : (Lit.int .i64 a1).wf = true) (w2 : a2.size ≤ maxLen) (w : World) (hF : F.told.answers w.tape) :
    Calls Tryf.prog 3 #[.string a0, .int .i64 a1, .string a2] w fun e w' => e = .returned (.bool true) ∧ Below w.heap.size w w' := by
  unfold maxLen at w0 w2
  by_cases hs : a0.size + a2.size ≤ 1048576
  · by_cases hb : a0.size ≤ 65536 ∧ a2.size ≤ 65536
    · obtain ⟨g0, g2⟩ := hb
      have n0 := bytes_size a0
      have n2 := bytes_size a2
      obtain ⟨q1, e1, l1, hl1, c1, s1⟩ := Plain.quote_coded a0.data.toList
      obtain ⟨q2, e2, l2, hl2, c2, s2⟩ := Plain.quote_coded a2.data.toList
      have z1 := FmtText.quote_length_le a0.data.toList
      have z2 := FmtText.quote_length_le a2.data.toList
      have tl : (qText a0.data.toList a2.data.toList).length ≤ 1400000 := by simp [qText]; omega
      obtain ⟨X, hX⟩ : ∃ X, FmtStop.textOf (F.told "fmt.Sprintf" (qReading a0.data.toList a2.data.toList) 0) = X := ⟨_, rfl⟩
      have hXl : X.data.toList = qText a0.data.toList a2.data.toList := by
        rw [← hX, Go.Kit.textOf_list]
        exact told_string F (q_text _ _ (by omega) (by omega)) (by omega)
      have hXs : X.size ≤ 4194304 := by rw [← bytes_size, hXl]; omega
      have hXd : X.data.toList = [108, 105, 116, 101, 114, 97, 108, 123] ++ (34 :: (q1 ++ 34 :: (44 :: 32 :: (34 :: (q2 ++ 34 :: [125]))))) := by
        rw [hXl, qText, e1, e2]; simp
      have hd1 : X.data.toList.drop 8 = 34 :: (codes l1 ++ 34 :: (44 :: 32 :: (34 :: (q2 ++ 34 :: [125])))) := by
        rw [hXd, c1]; rfl
      have hp1 := drop_coded hd1
      obtain ⟨J1, hJ1⟩ : ∃ J, J = 8 + 1 + (codes l1).length + 1 := ⟨_, rfl⟩
      rw [← hJ1] at hp1
      have hd2 : X.data.toList.drop (J1 + 2) = 34 :: (codes l2 ++ 34 :: [125]) := by
        rw [← List.drop_drop, hp1, c2]; rfl
      have hp2 := drop_coded hd2
      obtain ⟨J2, hJ2⟩ : ∃ J, J = J1 + 2 + 1 + (codes l2).length + 1 := ⟨_, rfl⟩
      rw [← hJ2] at hp2
      obtain ⟨k0, x1⟩ := at_drop (j := 0) (l := [44, 32]) (r := 34 :: (q2 ++ 34 :: [125])) hp1 rfl
      obtain ⟨k1, x2⟩ := at_drop (j := 1) (l := [44, 32]) (r := 34 :: (q2 ++ 34 :: [125])) hp1 rfl
      obtain ⟨k2, x3⟩ := at_drop (j := 0) (l := [125]) (r := []) hp2 rfl
      have hlen : X.size = J2 + 1 := by
        have h := congrArg List.length hp2
        rw [List.length_drop, bytes_size] at h
        simp at h
        omega
      have hpre : X.extract 0 8 = ⟨#[108, 105, 116, 101, 114, 97, 108, 123]⟩ := by
        refine bytes_ext ?_
        rw [Lib.extract_data, hXd]
        rfl
      have x1 : X[J1] = 44 := x1
      have x3 : X[J2] = 125 := x3
      refine law_ok F.told a0 a2 X a1 J1 J2 w hF g0 g2 hX hXs (by omega) hpre
        (fun w => dec_at X a0 8 8 J1 w l1 _ rfl hXs (by omega) s1 hJ1 hl1 hd1)
        (fun w => dec_at X a2 _ (J1 + 2) J2 w l2 _ (by omega) hXs (by omega) s2 hJ2 hl2 hd2)
        k1 (by rw [x1]; rfl) (by rw [x2]; rfl) k2 (by rw [hlen]; simp) (by rw [x3]; rfl)
    · exact law_big a0 a2 a1 w hs hb
  · exact law_no a0 a2 a1 w w0 w2 hs
end Go.Proofs.YtfldnaoaepbgiaaFmt
