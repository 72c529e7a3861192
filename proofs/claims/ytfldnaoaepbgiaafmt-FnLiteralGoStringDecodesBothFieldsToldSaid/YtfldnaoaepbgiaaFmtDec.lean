/- The contract of zzDecodeAt: over a quote, items, and a quote it gives the bytes that the items stand for, and the place behind. -/
import Derived.Test.YtfldnaoaepbgiaaFmtUlen
import Derived.Laws.IdiomStrings
namespace Go.Proofs.YtfldnaoaepbgiaaFmt
open Go.RowKit Go.Extern.Stop Go.Stop Go.Extern
set_option linter.unusedVariables false

theorem own_string {w : World} {B : Nat} {v : Value} {bs : List UInt8} (h : Owns w B v bs) : (convert 31 9 v).run Tryf.prog w = .ok (.string ⟨bs.toArray⟩) w := by
  have hc := h
  obtain ⟨hl, h1 | ⟨g, cap, cur, rfl, _⟩⟩ := h
  · obtain ⟨rfl, hn⟩ := h1
    obtain rfl : bs = [] := List.eq_nil_of_length_eq_zero hn
    rw [run_convert_bytes_string w 31 9 5 none 0 0 Tryf.underlying31 Tryf.underlying5 Tryf.underlying9]
    simp [Conv.bytesToString]
    rfl
  · refine run_convert_bytes_back w 31 9 5 ⟨g, 0, none⟩ cap bs Tryf.underlying31 Tryf.underlying5 Tryf.underlying9 ?_
    intro j hj
    exact World.ownsRow.cells hc rfl j _ (by simp [cellsOf, List.getElem?_eq_getElem hj])

def codes (l : List (List UInt8 × List UInt8)) : List UInt8 := (l.map (·.1)).flatten
def decs (l : List (List UInt8 × List UInt8)) : List UInt8 := (l.map (·.2)).flatten

/-- What holds at the head of each round: so many bytes are read, so many are left. -/
def DRel (q : ByteArray) (w : World) (fin : Nat) (post dec : List UInt8) (v i : Value) (wr : World) : Prop :=
  ∃ (k : Nat) (l : List (List UInt8 × List UInt8)) (dn : List UInt8), i = .int .i64 (k : Int) ∧ (∀ x ∈ l, Plain.Item x.1 x.2) ∧ q.data.toList.drop k = codes l ++ 34 :: post ∧ k + (codes l).length = fin ∧ dec = dn ++ decs l ∧ Owns wr w.heap.size v dn ∧ Below w.heap.size w wr

/-- What zzDecodeAt leaves. -/
def DPost (w : World) (fin : Nat) (dec : List UInt8) (e : Ending) (w' : World) : Prop := e = .returned (.tuple #[.string ⟨dec.toArray⟩, .int .i64 ((fin + 1 : Nat) : Int), .bool true]) ∧ Below w.heap.size w w'

theorem DRel.start (q : ByteArray) (i : Nat) (w : World) (l : List (List UInt8 × List UInt8)) (post : List UInt8) (hl : ∀ x ∈ l, Plain.Item x.1 x.2) (hd : q.data.toList.drop i = 34 :: (codes l ++ 34 :: post)) :
    DRel q w (i + 1 + (codes l).length) post (decs l) (.slice (some ⟨w.heap.size, 0, none⟩) 0 0) (.int .i64 ((i : Int) + 1)) (w.alloc (.cells #[] 5)) := by
  refine ⟨i + 1, l, [], by go_num, hl, ?_, rfl, rfl, World.ownsRow_made w #[] 0 (Nat.le_refl _) (Nat.zero_le _) rfl, (Below.refl _ _).alloc (Nat.le_refl _) _⟩
  rw [← List.drop_drop, hd]
  rfl

theorem DRel.step {q : ByteArray} {w : World} {fin k : Nat} {post dec dn c d : List UInt8} {t : List (List UInt8 × List UInt8)} {v' : Value} {w1 : World} (hit : ∀ x ∈ (c, d) :: t, Plain.Item x.1 x.2)
    (hdr : q.data.toList.drop k = codes ((c, d) :: t) ++ 34 :: post) (hfin : k + (codes ((c, d) :: t)).length = fin) (hdec : dec = dn ++ decs ((c, d) :: t)) (hown : Owns w1 w.heap.size v' (dn ++ d)) (hb : Below w.heap.size w w1)
    (i' : Int) (hi : i' = ((k + c.length : Nat) : Int)) : DRel q w fin post dec v' (.int .i64 i') w1 := by
  subst hi
  refine ⟨k + c.length, t, dn ++ d, rfl, fun x hx => hit x (List.mem_cons_of_mem _ hx), ?_, ?_, ?_, hown, hb⟩
  · rw [← List.drop_drop, hdr]
    simp [codes]
  · rw [← hfin]; simp [codes]; omega
  · rw [hdec]; simp [decs]

theorem hexN_at (q : ByteArray) (iI kI : Int) (i k V : Nat) (r : List UInt8) (w : World) (hiI : iI = (i : Int)) (hkI : kI = (k : Int)) (hk1 : 1 ≤ k) (hk : k ≤ 8) (hV : V < 16 ^ k) (hq : q.size ≤ 4194304) (hd : q.data.toList.drop i = FmtText.hexDigits V k ++ r) :
    Calls Tryf.prog 9 #[.string q, .int .i64 iI, .int .i64 kI] w fun e w' => e = .returned (.int .i64 (V : Int)) ∧ w = w' := by
  subst hiI hkI
  exact hexN_any q i k V r w hk1 hk hV hq hd

theorem ulen_at (q : ByteArray) (i R N : Nat) (rest : List UInt8) (w : World) (hw : Plain.Wide R) (hq : q.size ≤ 4194304) (hd : q.data.toList.drop i = Plain.enc R ++ rest) (hN : (Plain.enc R).length = N) :
    Calls Tryf.prog 8 #[.string q, .int .i64 (i : Int)] w fun e w' => e = .returned (.int .i64 (N : Int)) ∧ w = w' := by
  rw [← hN]
  exact ulen_any q i R rest w hw hq hd

set_option maxRecDepth 100000 in
theorem wide_first (R : Nat) (hw : Plain.Wide R) : ∃ (n : Nat) (r : List UInt8), Plain.enc R = UInt8.ofNat n :: r ∧ 194 ≤ n ∧ n < 245 ∧ 1 ≤ r.length ∧ r.length ≤ 3 := by
  obtain ⟨h1, hg⟩ := hw
  by_cases h2 : R < 2048
  · exact ⟨192 + R / 64, _, FmtText.enc2 R (by omega) (by omega), by omega, by omega, by simp, by simp⟩
  by_cases h3 : R < 65536
  · exact ⟨224 + R / 4096, _, FmtText.enc3 R (by omega) (by omega) (by omega), by omega, by omega, by simp, by simp⟩
  · exact ⟨240 + R / 262144, _, FmtText.enc4 R (by omega) (by omega), by omega, by omega, by simp, by simp⟩

/-- What holds in the inner loop: so many bytes of the rune are copied. -/
def IRel (w : World) (dn en : List UInt8) (N : Nat) (v j : Value) (w2 : World) : Prop := ∃ m : Nat, m ≤ N ∧ j = .int .i64 (m : Int) ∧ Owns w2 w.heap.size v (dn ++ en.take m) ∧ Below w.heap.size w w2

theorem drop_two {q : ByteArray} {k : Nat} {a b : UInt8} {c post : List UInt8} {d : List UInt8} {t : List (List UInt8 × List UInt8)} (h : q.data.toList.drop k = codes ((a :: b :: c, d) :: t) ++ 34 :: post) :
    q.data.toList.drop (k + 2) = c ++ (codes t ++ 34 :: post) := by
  rw [← List.drop_drop, h]
  simp [codes]

def Fits (V k : Nat) : Prop := V < 16 ^ k
theorem pow4 (r : Nat) (h : r < 65536) : Fits r 4 := h
theorem pow2 (r : Nat) (h : r < 256) : Fits r 2 := h
theorem pow8 (r : Nat) (h : Plain.Good r) : Fits r 8 := by
  unfold Fits
  unfold Plain.Good at h
  have : (16 : Nat) ^ 8 = 4294967296 := by decide
  omega

theorem byte_cell (w : World) (n : Nat) (x : Value) (h : x = .int .u8 ((UInt8.ofNat n).toNat : Int)) (j : Nat) (u : Value) (hu : (cellsOf [UInt8.ofNat n])[j]? = some u) :
    (w.alloc (.cells #[x] 5)).cell? ((⟨w.heap.size, 0, none⟩ : Addr).add j) = some u :=
  news_at w [x] _ (by rw [h]; rfl) j u hu

set_option maxRecDepth 100000 in
set_option maxHeartbeats 6400000 in
theorem dec_any (q : ByteArray) (i : Nat) (w : World) (l : List (List UInt8 × List UInt8)) (post : List UInt8) (hq : q.size ≤ 4194304) (hdl : (decs l).length ≤ 4194304) (hl : ∀ x ∈ l, Plain.Item x.1 x.2) (hd : q.data.toList.drop i = 34 :: (codes l ++ 34 :: post)) :
    Calls Tryf.prog 6 #[.string q, .int .i64 (i : Int)] w (DPost w (i + 1 + (codes l).length) (decs l)) := by
  have HS := Lib.hid (DRel.start q i w l post hl hd)
  obtain ⟨hi, x0⟩ := at_drop (j := 0) (l := [34]) (r := codes l ++ 34 :: post) hd rfl
  have x0 : ((q[i].toNat : Nat) : Int) = 34 := by rw [show q[i] = 34 from x0]; rfl
  have t1 : decide ((i : Int) < 0) = false := by simp
  have t2 : decide (q.size ≤ i) = false := by simp; exact hi
  have Hx := Lib.hid (show i < q.size from hi)
  clear hl hd
  generalize i + 1 + (codes l).length = fin at *
  generalize decs l = dec at *
  have HDL := Lib.hid hdl
  clear hdl
  go_enter Tryf.func6, Tryf.ntmps6
  go_wp2
  clear x0 t1 t2
  go_loopw [7, 8] (DRel q w fin post dec) (fun _ i _ => q.size - (intOf i).toNat)
  case atStart => exact HS.out
  case round =>
    clear HS
    obtain ⟨k, l2, dn, rfl, hit, hdr, hfin, hdec, hown, hbel⟩ := hrel
    have HO := Lib.hid hown
    have HB := Lib.hid hbel
    have HE := Lib.hid hdec
    have HF := Lib.hid hfin
    have HB2 := hbel.size
    have HDN : Hid (dn.length ≤ 4194304) := by
      have h1 := HDL.out
      rw [hdec, List.length_append] at h1
      show dn.length ≤ 4194304
      omega
    clear hown hbel hdec hfin Hx
    cases l2 with
    | nil =>
      as_aux_lemma =>
        obtain ⟨hk, x0⟩ := at_drop (j := 0) (l := [34]) (r := post) hdr rfl
        have x0 : ((q[k].toNat : Nat) : Int) = 34 := by rw [show q[k] = 34 from x0]; rfl
        have hk : k < q.size := hk
        have cv := own_string HO.out
        clear hdr hit
        go_wp2
        go_ret3
        have h1 := HF.out
        have h2 := HE.out
        simp only [codes, decs, List.map_nil, List.flatten_nil, List.append_nil, List.length_nil, Nat.add_zero] at h1 h2
        subst h1 h2
        exact ⟨by simp, HB.out⟩
    | cons p t =>
      obtain ⟨c, d⟩ := p
      have HI := Lib.hid hit
      have HD := Lib.hid hdr
      have it : Plain.Item c d := hit (c, d) (by simp)
      clear hdr hit
      rcases it with ⟨n, e1, e2, g1, g2, g3, g4⟩ | it
      · as_aux_lemma =>
          subst e1 e2
          obtain ⟨hk, x0⟩ := at_byte (n := n) (j := 0) HD.out (show _ = some (UInt8.ofNat n) by simp [codes]) (by omega)
          have x0 : ((q[k].toNat : Nat) : Int) = (n : Int) := x0
          have hk : k < q.size := hk
          have z1 : ((n : Int) == 34) = false := by simp; omega
          have z2 : decide ((n : Int) < 32) = false := by simp; omega
          have z3 : ((n : Int) == 127) = false := by simp; omega
          have z4 : decide (128 ≤ (n : Int)) = false := by simp; omega
          have z5 : ((n : Int) != 92) = true := by simp; omega
          go_wp2_with (at_builtin; refine append_bytes rfl _ _ rfl _ w.heap.size _ dn [UInt8.ofNat n] rfl (by exact HO.out.alloc _) ⟨wr.heap.size, 0, none⟩ 1 1 rfl ?a1 ?a2 ?a3 ?a4 ?_)
          case a1 => rfl
          case a2 => exact byte_cell wr n _ (by rw [byte_nat _ (by omega)])
          case a3 => have := HDN.out; omega
          case a4 => simp; omega
          intro v1 w1 ho hb
          have HO1 := Lib.hid ho
          have HB1 := Lib.hid (HB.out.trans ((show Below w.heap.size wr _ from (Below.refl _ _).alloc HB2 _).trans hb))
          clear ho hb
          go_wp2
          go_roundw
          case rel => exact DRel.step HI.out HD.out HF.out HE.out HO1.out HB1.out _ (by simp)
          case measure => simp [intOf]; omega
      rcases it with ⟨r, e1, e2, hw⟩ | it
      · obtain ⟨b0, rs, hen, y1, y2, y3, y4⟩ := wide_first r hw
        have hdr2 : q.data.toList.drop k = Plain.enc r ++ (codes t ++ 34 :: post) := by
          have h := HD.out
          rw [e1] at h
          simpa [codes] using h
        have HDR := Lib.hid hdr2
        clear hdr2
        have hN : (Plain.enc r).length = rs.length + 1 := by rw [hen]; rfl
        have E1 := Lib.hid e1
        have E2 := Lib.hid e2
        clear e1 e2
        obtain ⟨hk, x0⟩ := at_byte (n := b0) (j := 0) HDR.out (by rw [hen]; rfl) (by omega)
        have x0 : ((q[k].toNat : Nat) : Int) = (b0 : Int) := x0
        have hk : k < q.size := hk
        have hkN : k + (rs.length + 1) ≤ q.size := by
          have h := congrArg List.length HDR.out
          rw [List.length_drop, bytes_size, List.length_append, hN] at h
          omega
        have hN2 : 2 ≤ rs.length + 1 := by omega
        have hN4 : rs.length + 1 ≤ 4 := by omega
        clear hen y3 y4
        generalize rs.length + 1 = N at *
        have HU := Lib.hid (fun w => ulen_at q k r N _ w hw hq HDR.out hN)
        have HN := Lib.hid hN
        clear hN hw
        generalize Plain.enc r = en at *
        have z1 : ((b0 : Int) == 34) = false := by simp; omega
        have z2 : decide ((b0 : Int) < 32) = false := by simp; omega
        have z3 : ((b0 : Int) == 127) = false := by simp; omega
        have z4 : decide (128 ≤ (b0 : Int)) = true := by simp; omega
        have z5 : ((N : Int) == 0) = false := by simp; omega
        obtain ⟨wo, rfl⟩ : ∃ wo : World, wo = wr := ⟨_, rfl⟩
        go_wp2_with (go_at_call 8; refine (HU.out _).mono ?_; rintro e w' ⟨rfl, rfl⟩)
        clear HU
        go_loopw [7, 11] (IRel w dn en N) (fun _ j _ => N - (intOf j).toNat)
        case atStart => exact ⟨0, by omega, rfl, by rw [List.take_zero, List.append_nil]; exact HO.out, HB.out⟩
        case round =>
          obtain ⟨m, hm, rfl, ho2, hb2⟩ := hrel
          have HO2 := Lib.hid ho2
          have HBI := Lib.hid hb2
          have HBS := hb2.size
          clear ho2 hb2
          by_cases hlt : m < N
          · have hml : m < en.length := by rw [HN.out]; exact hlt
            obtain ⟨hkm, xm⟩ := at_drop HDR.out (List.getElem?_eq_getElem hml)
            have xm : ((q[k + m].toNat : Nat) : Int) = ((en[m].toNat : Nat) : Int) := by rw [xm]
            have HT : Hid (en.take (m + 1) = en.take m ++ [en[m]]) := List.take_succ_eq_append_getElem hml
            generalize en[m] = bm at *
            go_wp2_with (at_builtin; refine append_bytes rfl _ _ rfl _ w.heap.size _ (dn ++ en.take m) [bm] rfl (by exact HO2.out.alloc _) ⟨wr.heap.size, 0, none⟩ 1 1 rfl ?o1 ?o2 ?o3 ?o4 ?_)
            case o1 => rfl
            case o2 => exact news_at wr [_] [bm] rfl
            case o3 => have := HDN.out; simp; omega
            case o4 => simp; omega
            intro v1 w1 ho hb
            have HO1 := Lib.hid ho
            have HB1 := Lib.hid (HBI.out.trans ((show Below w.heap.size wr _ from (Below.refl _ _).alloc HBS _).trans hb))
            clear ho hb
            go_wp2
            go_roundw
            case rel => exact ⟨m + 1, by omega, by go_num, by rw [HT.out]; first | exact HO1.out | (rw [← List.append_assoc]; exact HO1.out), HB1.out⟩
            case measure => simp [intOf]; omega
          · have hmN : Hid (m = N) := by show m = N; omega
            go_wp2
            go_roundw
            case rel =>
              refine DRel.step HI.out HD.out HF.out HE.out ?_ HBI.out _ ?_
              · rw [E2.out]
                have h := HO2.out
                rw [List.take_of_length_le (by rw [HN.out]; omega)] at h
                exact h
              · rw [E1.out, HN.out]; omega
            case measure => simp [intOf]; omega
      rcases it with ⟨e, n, e1, e2, hm⟩ | it
      · simp only [Plain.simple, List.mem_cons, Prod.mk.injEq, List.not_mem_nil, or_false] at hm
        rcases hm with ⟨rfl, rfl⟩ | ⟨rfl, rfl⟩ | ⟨rfl, rfl⟩ | ⟨rfl, rfl⟩ | ⟨rfl, rfl⟩ | ⟨rfl, rfl⟩ | ⟨rfl, rfl⟩ | ⟨rfl, rfl⟩ | ⟨rfl, rfl⟩
        · as_aux_lemma =>
            subst e1 e2
            obtain ⟨hk, x0⟩ := at_byte (n := 92) (j := 0) HD.out (by simp [codes]) (by omega)
            obtain ⟨hk1, x1⟩ := at_byte (n := 97) (j := 1) HD.out (by simp [codes]) (by omega)
            have x0 : ((q[k].toNat : Nat) : Int) = 92 := x0
            have x1 : ((q[k + 1].toNat : Nat) : Int) = 97 := x1
            have hk : k < q.size := hk
            go_wp2_with (at_builtin; refine append_bytes rfl _ _ rfl _ w.heap.size _ dn [UInt8.ofNat 7] rfl (by exact HO.out.alloc _) ⟨wr.heap.size, 0, none⟩ 1 1 rfl ?b1 ?b2 ?b3 ?b4 ?_)
            case b1 => rfl
            case b2 => exact byte_cell wr 7 _ rfl
            case b3 => have := HDN.out; omega
            case b4 => simp; omega
            intro v1 w1 ho hb
            have HO1 := Lib.hid ho
            have HB1 := Lib.hid (HB.out.trans ((show Below w.heap.size wr _ from (Below.refl _ _).alloc HB2 _).trans hb))
            clear ho hb
            go_wp2
            go_roundw
            case rel => exact DRel.step HI.out HD.out HF.out HE.out HO1.out HB1.out _ (by simp)
            case measure => simp [intOf]; omega
        · as_aux_lemma =>
            subst e1 e2
            obtain ⟨hk, x0⟩ := at_byte (n := 92) (j := 0) HD.out (by simp [codes]) (by omega)
            obtain ⟨hk1, x1⟩ := at_byte (n := 98) (j := 1) HD.out (by simp [codes]) (by omega)
            have x0 : ((q[k].toNat : Nat) : Int) = 92 := x0
            have x1 : ((q[k + 1].toNat : Nat) : Int) = 98 := x1
            have hk : k < q.size := hk
            go_wp2_with (at_builtin; refine append_bytes rfl _ _ rfl _ w.heap.size _ dn [UInt8.ofNat 8] rfl (by exact HO.out.alloc _) ⟨wr.heap.size, 0, none⟩ 1 1 rfl ?c1 ?c2 ?c3 ?c4 ?_)
            case c1 => rfl
            case c2 => exact byte_cell wr 8 _ rfl
            case c3 => have := HDN.out; omega
            case c4 => simp; omega
            intro v1 w1 ho hb
            have HO1 := Lib.hid ho
            have HB1 := Lib.hid (HB.out.trans ((show Below w.heap.size wr _ from (Below.refl _ _).alloc HB2 _).trans hb))
            clear ho hb
            go_wp2
            go_roundw
            case rel => exact DRel.step HI.out HD.out HF.out HE.out HO1.out HB1.out _ (by simp)
            case measure => simp [intOf]; omega
        · as_aux_lemma =>
            subst e1 e2
            obtain ⟨hk, x0⟩ := at_byte (n := 92) (j := 0) HD.out (by simp [codes]) (by omega)
            obtain ⟨hk1, x1⟩ := at_byte (n := 102) (j := 1) HD.out (by simp [codes]) (by omega)
            have x0 : ((q[k].toNat : Nat) : Int) = 92 := x0
            have x1 : ((q[k + 1].toNat : Nat) : Int) = 102 := x1
            have hk : k < q.size := hk
            go_wp2_with (at_builtin; refine append_bytes rfl _ _ rfl _ w.heap.size _ dn [UInt8.ofNat 12] rfl (by exact HO.out.alloc _) ⟨wr.heap.size, 0, none⟩ 1 1 rfl ?d1 ?d2 ?d3 ?d4 ?_)
            case d1 => rfl
            case d2 => exact byte_cell wr 12 _ rfl
            case d3 => have := HDN.out; omega
            case d4 => simp; omega
            intro v1 w1 ho hb
            have HO1 := Lib.hid ho
            have HB1 := Lib.hid (HB.out.trans ((show Below w.heap.size wr _ from (Below.refl _ _).alloc HB2 _).trans hb))
            clear ho hb
            go_wp2
            go_roundw
            case rel => exact DRel.step HI.out HD.out HF.out HE.out HO1.out HB1.out _ (by simp)
            case measure => simp [intOf]; omega
        · as_aux_lemma =>
            subst e1 e2
            obtain ⟨hk, x0⟩ := at_byte (n := 92) (j := 0) HD.out (by simp [codes]) (by omega)
            obtain ⟨hk1, x1⟩ := at_byte (n := 110) (j := 1) HD.out (by simp [codes]) (by omega)
            have x0 : ((q[k].toNat : Nat) : Int) = 92 := x0
            have x1 : ((q[k + 1].toNat : Nat) : Int) = 110 := x1
            have hk : k < q.size := hk
            go_wp2_with (at_builtin; refine append_bytes rfl _ _ rfl _ w.heap.size _ dn [UInt8.ofNat 10] rfl (by exact HO.out.alloc _) ⟨wr.heap.size, 0, none⟩ 1 1 rfl ?e1 ?e2 ?e3 ?e4 ?_)
            case e1 => rfl
            case e2 => exact byte_cell wr 10 _ rfl
            case e3 => have := HDN.out; omega
            case e4 => simp; omega
            intro v1 w1 ho hb
            have HO1 := Lib.hid ho
            have HB1 := Lib.hid (HB.out.trans ((show Below w.heap.size wr _ from (Below.refl _ _).alloc HB2 _).trans hb))
            clear ho hb
            go_wp2
            go_roundw
            case rel => exact DRel.step HI.out HD.out HF.out HE.out HO1.out HB1.out _ (by simp)
            case measure => simp [intOf]; omega
        · as_aux_lemma =>
            subst e1 e2
            obtain ⟨hk, x0⟩ := at_byte (n := 92) (j := 0) HD.out (by simp [codes]) (by omega)
            obtain ⟨hk1, x1⟩ := at_byte (n := 114) (j := 1) HD.out (by simp [codes]) (by omega)
            have x0 : ((q[k].toNat : Nat) : Int) = 92 := x0
            have x1 : ((q[k + 1].toNat : Nat) : Int) = 114 := x1
            have hk : k < q.size := hk
            go_wp2_with (at_builtin; refine append_bytes rfl _ _ rfl _ w.heap.size _ dn [UInt8.ofNat 13] rfl (by exact HO.out.alloc _) ⟨wr.heap.size, 0, none⟩ 1 1 rfl ?f1 ?f2 ?f3 ?f4 ?_)
            case f1 => rfl
            case f2 => exact byte_cell wr 13 _ rfl
            case f3 => have := HDN.out; omega
            case f4 => simp; omega
            intro v1 w1 ho hb
            have HO1 := Lib.hid ho
            have HB1 := Lib.hid (HB.out.trans ((show Below w.heap.size wr _ from (Below.refl _ _).alloc HB2 _).trans hb))
            clear ho hb
            go_wp2
            go_roundw
            case rel => exact DRel.step HI.out HD.out HF.out HE.out HO1.out HB1.out _ (by simp)
            case measure => simp [intOf]; omega
        · as_aux_lemma =>
            subst e1 e2
            obtain ⟨hk, x0⟩ := at_byte (n := 92) (j := 0) HD.out (by simp [codes]) (by omega)
            obtain ⟨hk1, x1⟩ := at_byte (n := 116) (j := 1) HD.out (by simp [codes]) (by omega)
            have x0 : ((q[k].toNat : Nat) : Int) = 92 := x0
            have x1 : ((q[k + 1].toNat : Nat) : Int) = 116 := x1
            have hk : k < q.size := hk
            go_wp2_with (at_builtin; refine append_bytes rfl _ _ rfl _ w.heap.size _ dn [UInt8.ofNat 9] rfl (by exact HO.out.alloc _) ⟨wr.heap.size, 0, none⟩ 1 1 rfl ?g1 ?g2 ?g3 ?g4 ?_)
            case g1 => rfl
            case g2 => exact byte_cell wr 9 _ rfl
            case g3 => have := HDN.out; omega
            case g4 => simp; omega
            intro v1 w1 ho hb
            have HO1 := Lib.hid ho
            have HB1 := Lib.hid (HB.out.trans ((show Below w.heap.size wr _ from (Below.refl _ _).alloc HB2 _).trans hb))
            clear ho hb
            go_wp2
            go_roundw
            case rel => exact DRel.step HI.out HD.out HF.out HE.out HO1.out HB1.out _ (by simp)
            case measure => simp [intOf]; omega
        · as_aux_lemma =>
            subst e1 e2
            obtain ⟨hk, x0⟩ := at_byte (n := 92) (j := 0) HD.out (by simp [codes]) (by omega)
            obtain ⟨hk1, x1⟩ := at_byte (n := 118) (j := 1) HD.out (by simp [codes]) (by omega)
            have x0 : ((q[k].toNat : Nat) : Int) = 92 := x0
            have x1 : ((q[k + 1].toNat : Nat) : Int) = 118 := x1
            have hk : k < q.size := hk
            go_wp2_with (at_builtin; refine append_bytes rfl _ _ rfl _ w.heap.size _ dn [UInt8.ofNat 11] rfl (by exact HO.out.alloc _) ⟨wr.heap.size, 0, none⟩ 1 1 rfl ?h1 ?h2 ?h3 ?h4 ?_)
            case h1 => rfl
            case h2 => exact byte_cell wr 11 _ rfl
            case h3 => have := HDN.out; omega
            case h4 => simp; omega
            intro v1 w1 ho hb
            have HO1 := Lib.hid ho
            have HB1 := Lib.hid (HB.out.trans ((show Below w.heap.size wr _ from (Below.refl _ _).alloc HB2 _).trans hb))
            clear ho hb
            go_wp2
            go_roundw
            case rel => exact DRel.step HI.out HD.out HF.out HE.out HO1.out HB1.out _ (by simp)
            case measure => simp [intOf]; omega
        · as_aux_lemma =>
            subst e1 e2
            obtain ⟨hk, x0⟩ := at_byte (n := 92) (j := 0) HD.out (by simp [codes]) (by omega)
            obtain ⟨hk1, x1⟩ := at_byte (n := 92) (j := 1) HD.out (by simp [codes]) (by omega)
            have x0 : ((q[k].toNat : Nat) : Int) = 92 := x0
            have x1 : ((q[k + 1].toNat : Nat) : Int) = 92 := x1
            have hk : k < q.size := hk
            go_wp2_with (at_builtin; refine append_bytes rfl _ _ rfl _ w.heap.size _ dn [UInt8.ofNat 92] rfl (by exact HO.out.alloc _) ⟨wr.heap.size, 0, none⟩ 1 1 rfl ?i1 ?i2 ?i3 ?i4 ?_)
            case i1 => rfl
            case i2 => exact byte_cell wr 92 _ rfl
            case i3 => have := HDN.out; omega
            case i4 => simp; omega
            intro v1 w1 ho hb
            have HO1 := Lib.hid ho
            have HB1 := Lib.hid (HB.out.trans ((show Below w.heap.size wr _ from (Below.refl _ _).alloc HB2 _).trans hb))
            clear ho hb
            go_wp2
            go_roundw
            case rel => exact DRel.step HI.out HD.out HF.out HE.out HO1.out HB1.out _ (by simp)
            case measure => simp [intOf]; omega
        · as_aux_lemma =>
            subst e1 e2
            obtain ⟨hk, x0⟩ := at_byte (n := 92) (j := 0) HD.out (by simp [codes]) (by omega)
            obtain ⟨hk1, x1⟩ := at_byte (n := 34) (j := 1) HD.out (by simp [codes]) (by omega)
            have x0 : ((q[k].toNat : Nat) : Int) = 92 := x0
            have x1 : ((q[k + 1].toNat : Nat) : Int) = 34 := x1
            have hk : k < q.size := hk
            go_wp2_with (at_builtin; refine append_bytes rfl _ _ rfl _ w.heap.size _ dn [UInt8.ofNat 34] rfl (by exact HO.out.alloc _) ⟨wr.heap.size, 0, none⟩ 1 1 rfl ?j1 ?j2 ?j3 ?j4 ?_)
            case j1 => rfl
            case j2 => exact byte_cell wr 34 _ rfl
            case j3 => have := HDN.out; omega
            case j4 => simp; omega
            intro v1 w1 ho hb
            have HO1 := Lib.hid ho
            have HB1 := Lib.hid (HB.out.trans ((show Below w.heap.size wr _ from (Below.refl _ _).alloc HB2 _).trans hb))
            clear ho hb
            go_wp2
            go_roundw
            case rel => exact DRel.step HI.out HD.out HF.out HE.out HO1.out HB1.out _ (by simp)
            case measure => simp [intOf]; omega
      rcases it with ⟨b, e1, e2, g1⟩ | it
      · as_aux_lemma =>
          subst e1 e2
          obtain ⟨hk, x0⟩ := at_byte (n := 92) (j := 0) HD.out (by simp [codes]) (by omega)
          obtain ⟨hk1, x1⟩ := at_byte (n := 120) (j := 1) HD.out (by simp [codes]) (by omega)
          have x0 : ((q[k].toNat : Nat) : Int) = 92 := x0
          have x1 : ((q[k + 1].toNat : Nat) : Int) = 120 := x1
          have hk : k < q.size := hk
          have z1 : decide ((b : Int) < 0) = false := by simp
          have g2 : (b : Int) < 256 := by omega
          have HX := Lib.hid (drop_two HD.out)
          have HP := pow2 b g1
          go_wp2_with (first
            | (go_at_call 9; refine (hexN_at q _ _ (k + 2) 2 b _ _ (by omega) (by omega) (by omega) (by omega) HP hq HX.out).mono ?_; rintro e w' ⟨rfl, rfl⟩)
            | (at_builtin; refine append_bytes rfl _ _ rfl _ w.heap.size _ dn [UInt8.ofNat b] rfl (by exact HO.out.alloc _) ⟨wr.heap.size, 0, none⟩ 1 1 rfl ?l1 ?l2 ?l3 ?l4 ?_))
          case l1 => rfl
          case l2 => exact byte_cell wr b _ (by rw [byte_nat _ (by omega)])
          case l3 => have := HDN.out; omega
          case l4 => simp; omega
          intro v1 w1 ho hb
          have HO1 := Lib.hid ho
          have HB1 := Lib.hid (HB.out.trans ((show Below w.heap.size wr _ from (Below.refl _ _).alloc HB2 _).trans hb))
          clear ho hb
          go_wp2
          go_roundw
          case rel => exact DRel.step HI.out HD.out HF.out HE.out HO1.out HB1.out _ (by simp [hex_len] <;> omega)
          case measure => simp [intOf]; omega
      rcases it with ⟨r, e1, e2, g1, hg⟩ | ⟨r, e1, e2, hg⟩
      · have HG := Lib.hid hg
        have HP := pow4 r g1
        clear hg g1
        as_aux_lemma =>
          have E2 := Lib.hid e2
          clear e2
          subst e1
          obtain ⟨hk, x0⟩ := at_byte (n := 92) (j := 0) HD.out (by simp [codes]) (by omega)
          obtain ⟨hk1, x1⟩ := at_byte (n := 117) (j := 1) HD.out (by simp [codes]) (by omega)
          have x0 : ((q[k].toNat : Nat) : Int) = 92 := x0
          have x1 : ((q[k + 1].toNat : Nat) : Int) = 117 := x1
          have hk : k < q.size := hk
          have z1 : decide ((r : Int) < 0) = false := by simp
          have HX := Lib.hid (drop_two HD.out)
          go_wp2_with (first
            | (go_at_call 9; refine (hexN_at q _ _ (k + 2) 4 r _ _ (by omega) (by omega) (by omega) (by omega) HP hq HX.out).mono ?_; rintro e w' ⟨rfl, rfl⟩)
            | (go_at_call 10; refine (app_any r w.heap.size _ dn _ HG.out HO.out (Nat.le_trans HDN.out (by omega)) HB2).mono ?_; rintro e w1 ⟨v1, rfl, ho, hb⟩))
          have HO1 : Hid (Owns w1 w.heap.size v1 (dn ++ d)) := by rw [E2.out]; exact ho
          have HB1 := Lib.hid (HB.out.trans hb)
          clear ho hb
          go_roundw
          case rel => exact DRel.step HI.out HD.out HF.out HE.out HO1.out HB1.out _ (by simp [hex_len] <;> omega)
          case measure => simp [intOf]; omega
      · have HG := Lib.hid hg
        have HP := pow8 r hg
        clear hg
        as_aux_lemma =>
          have E2 := Lib.hid e2
          clear e2
          subst e1
          obtain ⟨hk, x0⟩ := at_byte (n := 92) (j := 0) HD.out (by simp [codes]) (by omega)
          obtain ⟨hk1, x1⟩ := at_byte (n := 85) (j := 1) HD.out (by simp [codes]) (by omega)
          have x0 : ((q[k].toNat : Nat) : Int) = 92 := x0
          have x1 : ((q[k + 1].toNat : Nat) : Int) = 85 := x1
          have hk : k < q.size := hk
          have z1 : decide ((r : Int) < 0) = false := by simp
          have HX := Lib.hid (drop_two HD.out)
          go_wp2_with (first
            | (go_at_call 9; refine (hexN_at q _ _ (k + 2) 8 r _ _ (by omega) (by omega) (by omega) (by omega) HP hq HX.out).mono ?_; rintro e w' ⟨rfl, rfl⟩)
            | (go_at_call 10; refine (app_any r w.heap.size _ dn _ HG.out HO.out (Nat.le_trans HDN.out (by omega)) HB2).mono ?_; rintro e w1 ⟨v1, rfl, ho, hb⟩))
          have HO1 : Hid (Owns w1 w.heap.size v1 (dn ++ d)) := by rw [E2.out]; exact ho
          have HB1 := Lib.hid (HB.out.trans hb)
          clear ho hb
          go_roundw
          case rel => exact DRel.step HI.out HD.out HF.out HE.out HO1.out HB1.out _ (by simp [hex_len] <;> omega)
          case measure => simp [intOf]; omega
end Go.Proofs.YtfldnaoaepbgiaaFmt
