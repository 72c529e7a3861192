/- Appending bytes to a row of the call's own, and the contract of zzAppendRune: it appends the UTF-8 bytes of the rune. -/
import Derived.Test.YtfldnaoaepbgiaaFmtHex
import Derived.Test.YtfldnaoaepbgiaaFmtBits
import Derived.OwnWalk
import Derived.Below
namespace Go.Proofs.YtfldnaoaepbgiaaFmt
open Go.RowKit Go.Extern.Stop Go.Stop Go.Extern
set_option linter.unusedVariables false

theorem info5 : (Tryf.prog.info? 5).map (fun i => (i.zero, i.size, i.bytes)) = some (some (.int .u8 0), 1, 1) := by kernel_rfl

def cellsOf (bs : List UInt8) : List Value := bs.map fun b => .int .u8 (b.toNat : Int)
theorem cellsOf_append (a b : List UInt8) : cellsOf (a ++ b) = cellsOf a ++ cellsOf b := by simp [cellsOf]
theorem cellsOf_length (a : List UInt8) : (cellsOf a).length = a.length := by simp [cellsOf]
/-- The slice value v owns a row, from block B on, that holds these bytes. -/
def Owns (w : World) (B : Nat) (v : Value) (bs : List UInt8) : Prop := w.ownsRow B 5 1 v bs.length (cellsOf bs)
theorem Owns.alloc {w : World} {B : Nat} {v : Value} {bs : List UInt8} (h : Owns w B v bs) (o : Obj) : Owns (w.alloc o) B v bs := World.ownsRow.alloc h o
theorem Owns.drewMany {w : World} {B : Nat} {v : Value} {bs : List UInt8} (h : Owns w B v bs) (n : Nat) : Owns (w.drewN n) B v bs := h

theorem append_bytes {ops : Array Oper} {rest : List Oper} {o : Oper} {a : Act} {Q : Exit → Act → World → Prop} (hgd : o.guard = none) (s x : Operand)
    (ho : o.op = .call { callee := .builtin .append, args := #[s, x], argTypes := #[31, 31] }) (w : World) (B : Nat) (v : Value) (bs new : List UInt8) (hs : a.eval s = v) (hown : Owns w B v bs)
    (ad : Addr) (m c : Nat) (hx : a.eval x = .slice (some ad) m c) (hl : new.length = m) (hnews : ∀ j u, (cellsOf new)[j]? = some u → w.cell? (ad.add j) = some u)
    (hz : bs.length + m ≤ 16777216) (hbase : B ≤ w.heap.size)
    (h : ∀ v' w', Owns w' B v' (bs ++ new) → Below B w w' → wpList Tryf.prog ops Q rest (a.put o.dst v') w') : wpList Tryf.prog ops Q (o :: rest) a w := by
  obtain ⟨i0, hi, hz0, hz1, hz2⟩ := info_parts info5
  refine wpList_append_own w hgd s x 31 ho B 5 i0 (.int .u8 0) 1 1 Tryf.underlying31 hi hz0 hz1 hz2 rfl (by decide) v bs.length (cellsOf bs) hs hown ad m c (cellsOf new) hx (by rw [cellsOf_length]; omega) hnews ?_ (by unfold maxLen; omega) (by omega) hbase ?_
  · intro u hu
    unfold cellsOf at hu
    obtain ⟨b, _, rfl⟩ := List.mem_map.1 hu
    rfl
  · intro v' w' h1 h2 _
    refine h v' w' ?_ ?_
    · unfold Owns
      rw [cellsOf_append, List.length_append, hl]
      exact h1
    · exact (Below.refl B w).grown h2 hbase (fun k hk => (World.ownsRow.lt hown k hk).1)

theorem news_at (w : World) (cs : List Value) (new : List UInt8) (h : cs = cellsOf new) (j : Nat) (u : Value) (hu : (cellsOf new)[j]? = some u) :
    (w.alloc (.cells cs.toArray 5)).cell? ((⟨w.heap.size, 0, none⟩ : Addr).add j) = some u := by
  subst h
  have e : (⟨w.heap.size, 0, none⟩ : Addr).add j = ⟨w.heap.size, j, none⟩ := by
    cases j with
    | zero => rfl
    | succ n => simp [Addr.add]
  rw [e, World.cell?_alloc_new, List.getElem?_toArray]
  exact hu

theorem byte_nat (n : Nat) (h : n < 256) : ((UInt8.ofNat n).toNat : Int) = (n : Int) := by
  rw [UInt8.toNat_ofNat']
  omega

def AppPost (B : Nat) (bs : List UInt8) (w : World) (e : Ending) (w' : World) : Prop := ∃ v', e = .returned (.tuple #[v', .bool true]) ∧ Owns w' B v' bs ∧ Below B w w'

set_option maxRecDepth 100000 in
set_option maxHeartbeats 800000 in
theorem app1 (r : Int) (R : Nat) (B : Nat) (v : Value) (bs : List UInt8) (w : World) (hr : Hid (r = (R : Int))) (h1 : 0 ≤ r) (h2 : r < 128) (hown : Owns w B v bs) (hz : Hid (bs.length ≤ 8388608)) (hB : B ≤ w.heap.size) :
    Calls Tryf.prog 10 #[v, .int .i64 r] w (AppPost B (bs ++ Plain.enc R) w) := by
  have HO := Lib.hid hown
  clear hown
  go_enter Tryf.func10, Tryf.ntmps10
  go_wp2_with (at_builtin; refine append_bytes rfl _ _ rfl _ B v bs (Plain.enc R) rfl (by exact HO.out.alloc _) ⟨w.heap.size, 0, none⟩ 1 1 rfl ?c1 ?c2 ?c3 ?c4 ?_)
  case c1 =>
    have hR := hr.out
    rw [show Plain.enc R = _ from FmtText.enc1 R (by omega)]
    rfl
  case c2 =>
    intro j u hu
    have hR := hr.out
    have e : cellsOf (Plain.enc R) = [.int .u8 (r)] := by
      rw [show Plain.enc R = _ from FmtText.enc1 R (by omega)]
      simp only [cellsOf, List.map_cons, List.map_nil]
      rw [byte_nat _ (by omega), hR]
    first
      | exact news_at w _ _ e.symm j u hu
      | (rw [e] at hu; exact hu)
  case c3 => have := hz.out; omega
  case c4 => first | omega | (simp; omega)
  intro v' w1 ho hb
  go_wp2
  exact bodyPost_ret (v := .tuple #[v', .bool true]) (by simp [results, Tryf.results10, go_sem]) rfl ⟨v', rfl, ho, ((Below.refl B w).alloc hB _).trans hb⟩

set_option maxRecDepth 100000 in
set_option maxHeartbeats 800000 in
theorem app2 (r : Int) (R : Nat) (B : Nat) (v : Value) (bs : List UInt8) (w : World) (hr : Hid (r = (R : Int))) (h1 : 128 ≤ r) (h2 : r < 2048) (hown : Owns w B v bs) (hz : Hid (bs.length ≤ 8388608)) (hB : B ≤ w.heap.size) :
    Calls Tryf.prog 10 #[v, .int .i64 r] w (AppPost B (bs ++ Plain.enc R) w) := by
  have HO := Lib.hid hown
  clear hown
  have f0 : bits .or .i64 192 (r / 64) = 192 + r / 64 := by
    have hR := hr.out
    have := i64_or 5 192 (R / 64) (by omega) (by decide) (by omega) (by omega)
    rw [hR]; simpa using this
  have f1 : bits .and .i64 r 63 = r % 64 := i64_and63 r
  have f2 : bits .or .i64 128 (r % 64) = 128 + r % 64 := by
    have hR := hr.out
    have := i64_or 6 128 (R % 64) (by omega) (by decide) (by omega) (by omega)
    rw [hR]; simpa using this
  go_enter Tryf.func10, Tryf.ntmps10
  go_wp2_with (at_builtin; refine append_bytes rfl _ _ rfl _ B v bs (Plain.enc R) rfl (by exact HO.out.alloc _) ⟨w.heap.size, 0, none⟩ 2 2 rfl ?c1 ?c2 ?c3 ?c4 ?_)
  case c1 =>
    have hR := hr.out
    rw [show Plain.enc R = _ from FmtText.enc2 R (by omega) (by omega)]
    rfl
  case c2 =>
    intro j u hu
    have hR := hr.out
    have e : cellsOf (Plain.enc R) = [.int .u8 (192 + r / 64), .int .u8 (128 + r % 64)] := by
      rw [show Plain.enc R = _ from FmtText.enc2 R (by omega) (by omega)]
      simp only [cellsOf, List.map_cons, List.map_nil]
      rw [byte_nat _ (by omega), byte_nat _ (by omega), hR]
      rfl
    first
      | exact news_at w _ _ e.symm j u hu
      | (rw [e] at hu; exact hu)
  case c3 => have := hz.out; omega
  case c4 => first | omega | (simp; omega)
  intro v' w1 ho hb
  go_wp2
  exact bodyPost_ret (v := .tuple #[v', .bool true]) (by simp [results, Tryf.results10, go_sem]) rfl ⟨v', rfl, ho, ((Below.refl B w).alloc hB _).trans hb⟩

set_option maxRecDepth 100000 in
set_option maxHeartbeats 800000 in
theorem app3a (r : Int) (R : Nat) (B : Nat) (v : Value) (bs : List UInt8) (w : World) (hr : Hid (r = (R : Int))) (h1 : 2048 ≤ r) (h2 : r < 55296) (hown : Owns w B v bs) (hz : Hid (bs.length ≤ 8388608)) (hB : B ≤ w.heap.size) :
    Calls Tryf.prog 10 #[v, .int .i64 r] w (AppPost B (bs ++ Plain.enc R) w) := by
  have HO := Lib.hid hown
  clear hown
  have f0 : bits .or .i64 224 (r / 4096) = 224 + r / 4096 := by
    have hR := hr.out
    have := i64_or 4 224 (R / 4096) (by omega) (by decide) (by omega) (by omega)
    rw [hR]; simpa using this
  have f3 : bits .and .i64 (r / 64) 63 = r / 64 % 64 := i64_and63 _
  have f4 : bits .or .i64 128 (r / 64 % 64) = 128 + r / 64 % 64 := by
    have hR := hr.out
    have := i64_or 6 128 (R / 64 % 64) (by omega) (by decide) (by omega) (by omega)
    rw [hR]; simpa using this
  have f1 : bits .and .i64 r 63 = r % 64 := i64_and63 r
  have f2 : bits .or .i64 128 (r % 64) = 128 + r % 64 := by
    have hR := hr.out
    have := i64_or 6 128 (R % 64) (by omega) (by decide) (by omega) (by omega)
    rw [hR]; simpa using this
  go_enter Tryf.func10, Tryf.ntmps10
  go_wp2_with (at_builtin; refine append_bytes rfl _ _ rfl _ B v bs (Plain.enc R) rfl (by exact HO.out.alloc _) ⟨w.heap.size, 0, none⟩ 3 3 rfl ?c1 ?c2 ?c3 ?c4 ?_)
  case c1 =>
    have hR := hr.out
    rw [show Plain.enc R = _ from FmtText.enc3 R (by omega) (by omega) (by omega)]
    rfl
  case c2 =>
    intro j u hu
    have hR := hr.out
    have e : cellsOf (Plain.enc R) = [.int .u8 (224 + r / 4096), .int .u8 (128 + r / 64 % 64), .int .u8 (128 + r % 64)] := by
      rw [show Plain.enc R = _ from FmtText.enc3 R (by omega) (by omega) (by omega)]
      simp only [cellsOf, List.map_cons, List.map_nil]
      rw [byte_nat _ (by omega), byte_nat _ (by omega), byte_nat _ (by omega), hR]
      rfl
    first
      | exact news_at w _ _ e.symm j u hu
      | (rw [e] at hu; exact hu)
  case c3 => have := hz.out; omega
  case c4 => first | omega | (simp; omega)
  intro v' w1 ho hb
  go_wp2
  exact bodyPost_ret (v := .tuple #[v', .bool true]) (by simp [results, Tryf.results10, go_sem]) rfl ⟨v', rfl, ho, ((Below.refl B w).alloc hB _).trans hb⟩

set_option maxRecDepth 100000 in
set_option maxHeartbeats 800000 in
theorem app3b (r : Int) (R : Nat) (B : Nat) (v : Value) (bs : List UInt8) (w : World) (hr : Hid (r = (R : Int))) (h1 : 57344 ≤ r) (h2 : r < 65536) (hown : Owns w B v bs) (hz : Hid (bs.length ≤ 8388608)) (hB : B ≤ w.heap.size) :
    Calls Tryf.prog 10 #[v, .int .i64 r] w (AppPost B (bs ++ Plain.enc R) w) := by
  have HO := Lib.hid hown
  clear hown
  have f0 : bits .or .i64 224 (r / 4096) = 224 + r / 4096 := by
    have hR := hr.out
    have := i64_or 4 224 (R / 4096) (by omega) (by decide) (by omega) (by omega)
    rw [hR]; simpa using this
  have f3 : bits .and .i64 (r / 64) 63 = r / 64 % 64 := i64_and63 _
  have f4 : bits .or .i64 128 (r / 64 % 64) = 128 + r / 64 % 64 := by
    have hR := hr.out
    have := i64_or 6 128 (R / 64 % 64) (by omega) (by decide) (by omega) (by omega)
    rw [hR]; simpa using this
  have f1 : bits .and .i64 r 63 = r % 64 := i64_and63 r
  have f2 : bits .or .i64 128 (r % 64) = 128 + r % 64 := by
    have hR := hr.out
    have := i64_or 6 128 (R % 64) (by omega) (by decide) (by omega) (by omega)
    rw [hR]; simpa using this
  go_enter Tryf.func10, Tryf.ntmps10
  go_wp2_with (at_builtin; refine append_bytes rfl _ _ rfl _ B v bs (Plain.enc R) rfl (by exact HO.out.alloc _) ⟨w.heap.size, 0, none⟩ 3 3 rfl ?c1 ?c2 ?c3 ?c4 ?_)
  case c1 =>
    have hR := hr.out
    rw [show Plain.enc R = _ from FmtText.enc3 R (by omega) (by omega) (by omega)]
    rfl
  case c2 =>
    intro j u hu
    have hR := hr.out
    have e : cellsOf (Plain.enc R) = [.int .u8 (224 + r / 4096), .int .u8 (128 + r / 64 % 64), .int .u8 (128 + r % 64)] := by
      rw [show Plain.enc R = _ from FmtText.enc3 R (by omega) (by omega) (by omega)]
      simp only [cellsOf, List.map_cons, List.map_nil]
      rw [byte_nat _ (by omega), byte_nat _ (by omega), byte_nat _ (by omega), hR]
      rfl
    first
      | exact news_at w _ _ e.symm j u hu
      | (rw [e] at hu; exact hu)
  case c3 => have := hz.out; omega
  case c4 => first | omega | (simp; omega)
  intro v' w1 ho hb
  go_wp2
  exact bodyPost_ret (v := .tuple #[v', .bool true]) (by simp [results, Tryf.results10, go_sem]) rfl ⟨v', rfl, ho, ((Below.refl B w).alloc hB _).trans hb⟩

set_option maxRecDepth 100000 in
set_option maxHeartbeats 800000 in
theorem app4 (r : Int) (R : Nat) (B : Nat) (v : Value) (bs : List UInt8) (w : World) (hr : Hid (r = (R : Int))) (h1 : 65536 ≤ r) (h2 : r < 1114112) (hown : Owns w B v bs) (hz : Hid (bs.length ≤ 8388608)) (hB : B ≤ w.heap.size) :
    Calls Tryf.prog 10 #[v, .int .i64 r] w (AppPost B (bs ++ Plain.enc R) w) := by
  have HO := Lib.hid hown
  clear hown
  have f0 : bits .or .i64 240 (r / 262144) = 240 + r / 262144 := by
    have hR := hr.out
    have := i64_or 3 240 (R / 262144) (by omega) (by decide) (by omega) (by omega)
    rw [hR]; simpa using this
  have f5 : bits .and .i64 (r / 4096) 63 = r / 4096 % 64 := i64_and63 _
  have f6 : bits .or .i64 128 (r / 4096 % 64) = 128 + r / 4096 % 64 := by
    have hR := hr.out
    have := i64_or 6 128 (R / 4096 % 64) (by omega) (by decide) (by omega) (by omega)
    rw [hR]; simpa using this
  have f3 : bits .and .i64 (r / 64) 63 = r / 64 % 64 := i64_and63 _
  have f4 : bits .or .i64 128 (r / 64 % 64) = 128 + r / 64 % 64 := by
    have hR := hr.out
    have := i64_or 6 128 (R / 64 % 64) (by omega) (by decide) (by omega) (by omega)
    rw [hR]; simpa using this
  have f1 : bits .and .i64 r 63 = r % 64 := i64_and63 r
  have f2 : bits .or .i64 128 (r % 64) = 128 + r % 64 := by
    have hR := hr.out
    have := i64_or 6 128 (R % 64) (by omega) (by decide) (by omega) (by omega)
    rw [hR]; simpa using this
  go_enter Tryf.func10, Tryf.ntmps10
  go_wp2_with (at_builtin; refine append_bytes rfl _ _ rfl _ B v bs (Plain.enc R) rfl (by exact HO.out.alloc _) ⟨w.heap.size, 0, none⟩ 4 4 rfl ?c1 ?c2 ?c3 ?c4 ?_)
  case c1 =>
    have hR := hr.out
    rw [show Plain.enc R = _ from FmtText.enc4 R (by omega) (by omega)]
    rfl
  case c2 =>
    intro j u hu
    have hR := hr.out
    have e : cellsOf (Plain.enc R) = [.int .u8 (240 + r / 262144), .int .u8 (128 + r / 4096 % 64), .int .u8 (128 + r / 64 % 64), .int .u8 (128 + r % 64)] := by
      rw [show Plain.enc R = _ from FmtText.enc4 R (by omega) (by omega)]
      simp only [cellsOf, List.map_cons, List.map_nil]
      rw [byte_nat _ (by omega), byte_nat _ (by omega), byte_nat _ (by omega), byte_nat _ (by omega), hR]
      rfl
    first
      | exact news_at w _ _ e.symm j u hu
      | (rw [e] at hu; exact hu)
  case c3 => have := hz.out; omega
  case c4 => first | omega | (simp; omega)
  intro v' w1 ho hb
  go_wp2
  exact bodyPost_ret (v := .tuple #[v', .bool true]) (by simp [results, Tryf.results10, go_sem]) rfl ⟨v', rfl, ho, ((Below.refl B w).alloc hB _).trans hb⟩

theorem app_any (R : Nat) (B : Nat) (v : Value) (bs : List UInt8) (w : World) (hg : Plain.Good R) (hown : Owns w B v bs) (hz : bs.length ≤ 8388608) (hB : B ≤ w.heap.size) :
    Calls Tryf.prog 10 #[v, .int .i64 (R : Int)] w (AppPost B (bs ++ Plain.enc R) w) := by
  unfold Plain.Good at hg
  by_cases h1 : R < 128
  · exact app1 R R B v bs w rfl (by omega) (by omega) hown hz hB
  by_cases h2 : R < 2048
  · exact app2 R R B v bs w rfl (by omega) (by omega) hown hz hB
  by_cases h3 : R < 55296
  · exact app3a R R B v bs w rfl (by omega) (by omega) hown hz hB
  by_cases h4 : R < 65536
  · exact app3b R R B v bs w rfl (by omega) (by omega) hown hz hB
  · exact app4 R R B v bs w rfl (by omega) (by omega) hown hz hB
end Go.Proofs.YtfldnaoaepbgiaaFmt
